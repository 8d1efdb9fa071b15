import Derived.Test.Qxb6600159aE4
namespace Go.Proofs.Qxb6600159a
open Go.RowKit Go.Maps
set_option linter.unusedVariables false

set_option maxRecDepth 100000 in
set_option maxHeartbeats 4000000 in
theorem law5 (aa a1 a2 a3 a4 : Option Addr) (la n1 n2 n3 n4 ca c1 c2 c3 c4 : Nat) (qa : List Int) (S1 S3 : Nat → ByteArray) (V2 V4 : Nat → Value) (Q2 Q4 : Nat → List Int) (path : ByteArray) (w : World)
    (ha : Arr w aa la (fun j => .int .i32 (qa.getD j 0))) (hqa : qa.length = la) (h1 : Arr w a1 n1 fun i => .string (S1 i)) (s1 : ∀ i, (S1 i).size ≤ maxLen) (h2 : Ls w a2 n2 V2 Q2) (h3 : Arr w a3 n3 fun i => .string (S3 i)) (s3 : ∀ i, (S3 i).size ≤ maxLen) (h4 : Ls w a4 n4 V4 Q4) (sp : path.size ≤ maxLen) :
    Calls Try.prog 5 #[.slice aa la ca, .slice a1 n1 c1, .slice a2 n2 c2, .slice a3 n3 c3, .slice a4 n4 c4, .string path] w (LawPost w) := by
  have m0 := ha.1
  have m1 := h1.1
  have m2 := h2.1.1
  have m3 := h3.1
  have m4 := h4.1.1
  have s1' : ∀ i, (S1 i).size ≤ 9223372036854775807 := fun i => by have := s1 i; unfold maxLen at this; exact this
  have s3' : ∀ i, (S3 i).size ≤ 9223372036854775807 := fun i => by have := s3 i; unfold maxLen at this; exact this
  have sp' : path.size ≤ 9223372036854775807 := by unfold maxLen at sp; exact sp
  have C20 := hid (zz20 aa a1 a2 a3 a4 la n1 n2 n3 n4 ca c1 c2 c3 c4 S1 S3 V2 V4 Q2 Q4 path w m0 h1 s1' h2 h3 s3' h4 sp')
  have D1 := hid (list21R aa la ca w m0)
  have D2 := hid (bytes22R a1 n1 c1 S1 w h1 s1')
  have D3 := hid (lbytes9R a2 n2 c2 V2 Q2 w h2)
  have D4 := hid (bytes22R a3 n3 c3 S3 w h3 s3')
  have D5 := hid (lbytes9R a4 n4 c4 V4 Q4 w h4)
  have D6 := hid (str23 path w sp')
  have HA := hid ha
  have H1 := hid h1
  have H2 := hid h2
  have H3 := hid h3
  have H4 := hid h4
  have HS1 := hid s1
  have HS3 := hid s3
  have HQA := hid hqa
  have HSP := hid sp'
  clear ha h1 h2 h3 h4 s1 s3 s1' s3' hqa sp sp'
  go_enter Try.func5, Try.ntmps5
  go_wp2_with fail
  refine C20.out.mono ?_
  rintro e w1 ⟨b, rfl, _, hw⟩
  obtain rfl := hw.symm
  clear C20
  cases b
  · go_wp2_with fail
    go_ret
    exact ⟨rfl, Below.refl _ _⟩
  go_wp2_with fail
  refine D1.out.mono ?_
  rintro e w1 ⟨r1, rfl, p1, q1, t1, hw1⟩
  obtain rfl := hw1.symm
  go_wp2_with fail
  refine D2.out.mono ?_
  rintro e w1 ⟨r2, rfl, p2, q2, _, hw2⟩
  obtain rfl := hw2.symm
  go_wp2_with fail
  refine D3.out.mono ?_
  rintro e w1 ⟨r3, rfl, p3, q3, t3, hw3⟩
  obtain rfl := hw3.symm
  go_wp2_with fail
  refine D4.out.mono ?_
  rintro e w1 ⟨r4, rfl, p4, q4, _, hw4⟩
  obtain rfl := hw4.symm
  go_wp2_with fail
  refine D5.out.mono ?_
  rintro e w1 ⟨r5, rfl, p5, q5, t5, hw5⟩
  obtain rfl := hw5.symm
  go_wp2_with fail
  refine D6.out.mono ?_
  rintro e w1 ⟨r6, rfl, p6, q6, t6, hw6⟩
  obtain rfl := hw6.symm
  clear D1 D2 D3 D4 D5 D6
  have T1 := hid t1
  have T3 := hid t3
  have T5 := hid t5
  have T6 := hid t6
  clear t1 t3 t5 t6
  by_cases hsum : 1048576 < r1 + r2 + r3 + r4 + r5 + r6
  · go_wp2_with fail
    go_ret
    exact ⟨rfl, Below.refl _ _⟩
  have k1 := T1.out (by omega)
  have k3 := T3.out (by omega)
  have k5 := T5.out (by omega)
  have k6 := T6.out (by omega)
  have K := hid (show la + sumL Q2 n2 + sumL Q4 n4 ≤ 786432 by omega)
  have kla : la ≤ 262144 := by omega
  have kn2 : n2 ≤ 1048576 := by omega
  have kn4 : n4 ≤ 1048576 := by omega
  have ks2 := hid (show sumL Q2 n2 ≤ 262144 by omega)
  have ks4 := hid (show sumL Q4 n4 ≤ 262144 by omega)
  clear T1 T3 T5 T6 k1 k3 k5
  by_cases hn1 : 4096 < n1
  · go_wp2_with fail
    all_goals
      go_ret
      exact ⟨rfl, Below.refl _ _⟩
  by_cases hn3 : 4096 < n3
  · go_wp2_with fail
    all_goals
      go_ret
      exact ⟨rfl, Below.refl _ _⟩
  have x1 : n1 ≤ 4096 := by omega
  have x3 : n3 ≤ 4096 := by omega
  have y1 : decide (4096 < n1) = false := by simp; omega
  have y3 : decide (4096 < n3) = false := by simp; omega
  go_wp2_with fail
  refine (asc24 aa ca la qa w HA.out HQA.out).mono ?_
  rintro e w1 ⟨b, rfl, hb, g1, rfl⟩
  cases b
  · clear hb
    go_wp2_with fail
    go_ret
    exact ⟨rfl, belowN (Below.refl _ _) _⟩
  have ASA := hid (hb rfl)
  clear hb
  have E2 := hid (allAsc10 a2 n2 c2 V2 Q2 (w.drewN g1) H2.out)
  go_wp2_with fail
  refine E2.out.mono ?_
  rintro e w1 ⟨b, rfl, hb, g2, rfl⟩
  cases b
  · clear hb
    go_wp2_with fail
    go_ret
    exact ⟨rfl, belowN (Below.refl _ _) _⟩
  have AS2 := hid (hb rfl)
  clear hb E2
  have E4 := hid (allAsc10 a4 n4 c4 V4 Q4 (w.drewN (g1 + g2)) H4.out)
  go_wp2_with fail
  refine E4.out.mono ?_
  rintro e w1 ⟨b, rfl, hb, g3, rfl⟩
  cases b
  · clear hb
    go_wp2_with fail
    go_ret
    exact ⟨rfl, belowN (Below.refl _ _) _⟩
  have AS4 := hid (hb rfl)
  clear hb E4
  have B0 := hid (belowN (Below.refl w.heap.size w) (g1 + g2 + g3))
  obtain ⟨w0, hw0⟩ : ∃ w0, w0 = w.drewN (g1 + g2 + g3) := ⟨_, rfl⟩
  have G0 := hid (show Arr w0 aa la (fun j => .int .i32 (qa.getD j 0)) by rw [hw0]; exact HA.out)
  have G1 := hid (show Arr w0 a1 n1 (fun i => .string (S1 i)) by rw [hw0]; exact H1.out)
  have G2 := hid (show Ls w0 a2 n2 V2 Q2 by rw [hw0]; exact H2.out)
  have G3 := hid (show Arr w0 a3 n3 (fun i => .string (S3 i)) by rw [hw0]; exact H3.out)
  have G4 := hid (show Ls w0 a4 n4 V4 Q4 by rw [hw0]; exact H4.out)
  rw [← hw0] at B0
  go_wp2_with fail
  rw [← hw0]
  clear hw0 HA H1 H2 H3 H4
  refine (clone25 aa ca la qa w0 G0.out HQA.out (by omega)).mono ?_
  rintro e w1 ⟨v0, rfl, hv0, hb1⟩
  obtain ⟨va, vc, hve, _⟩ := id hv0
  rw [HQA.out] at hve
  subst hve
  have I1 := hid hv0
  have B1 := hid hb1
  clear hv0 hb1 G0
  go_wp2_with fail
  refine (clone26 a1 n1 c1 S1 w1 (G1.out.later B1.out) (by omega)).mono ?_
  rintro e w2 ⟨u1, d1, rfl, hu1, _, hb2⟩
  have U1 := hid hu1
  have B2 := hid hb2
  have B02 := hid (B1.out.trans (hb2.mono B1.out.size))
  clear hu1 hb2 G1
  go_wp2_with fail
  refine (clone11 a2 n2 c2 V2 Q2 w2 (G2.out.later B02.out) (by have := ks2.out; omega) kn2).mono ?_
  rintro e w3 ⟨u2, d2, W2, rfl, hu2, hb3⟩
  have U2 := hid hu2
  have B3 := hid hb3
  have B03 := hid (B02.out.trans (hb3.mono B02.out.size))
  clear hu2 hb3 G2
  go_wp2_with fail
  refine (clone26 a3 n3 c3 S3 w3 (G3.out.later B03.out) (by omega)).mono ?_
  rintro e w4 ⟨u3, d3, rfl, hu3, _, hb4⟩
  have U3 := hid hu3
  have B4 := hid hb4
  have B04 := hid (B03.out.trans (hb4.mono B03.out.size))
  clear hu3 hb4 G3
  go_wp2_with fail
  refine (clone11 a4 n4 c4 V4 Q4 w4 (G4.out.later B04.out) (by have := ks4.out; omega) kn4).mono ?_
  rintro e w5 ⟨u4, d4, W4, rfl, hu4, hb5⟩
  have B45 := hid hb5
  have B35 := hid (B4.out.trans (hb5.mono B4.out.size))
  have B25 := hid (B3.out.trans (B35.out.mono B3.out.size))
  have B15 := hid (B2.out.trans (B25.out.mono B2.out.size))
  have B05 := hid (B1.out.trans (B15.out.mono B1.out.size))
  have BW := hid (B0.out.trans (B05.out.mono B0.out.size))
  have J0 := hid (I1.out.later B15.out)
  have J1 := hid (U1.out.later B25.out)
  have J2 := hid (U2.out.later B35.out)
  have J3 := hid (U3.out.later B45.out)
  have J4 := hid hu4
  clear hu4 hb5 G4 I1 U1 U2 U3 B0 B1 B2 B3 B4 B02 B03 B04 B45 B35 B25 B15 B05
  go_wp2_with fail
  refine (pair27 n1 n2 w5).mono ?_
  rintro e w6 ⟨rfl, hw7⟩
  obtain rfl := hw7.symm
  obtain ⟨ne, hne⟩ : ∃ ne, ne = min n1 n2 := ⟨_, rfl⟩
  rw [← hne]
  have z1 : ne ≤ n1 := by omega
  have z2 : ne ≤ n2 := by omega
  clear hne
  go_wp2_with fail
  refine (pair27 n3 n4 w5).mono ?_
  rintro e w6 ⟨rfl, hw8⟩
  obtain rfl := hw8.symm
  obtain ⟨np, hnp⟩ : ∃ np, np = min n3 n4 := ⟨_, rfl⟩
  rw [← hnp]
  have z3 : np ≤ n3 := by omega
  have z4 : np ≤ n4 := by omega
  clear hnp
  have sm2 := hid (sumL_mono Q2 z2)
  have sm4 := hid (sumL_mono Q4 z4)
  go_wp2_with fail
  refine (build28 u1 u2 n1 n2 d1 d2 ne S1 W2 Q2 w5 J1.out HS1.out J2.out z1 z2 (by omega)).mono ?_
  rintro e w6 ⟨me, rfl, hme, hb6⟩
  have ME := hid hme
  have B6 := hid hb6
  clear hme hb6
  go_wp2_with fail
  refine (build28 u3 u4 n3 n4 d3 d4 np S3 W4 Q4 w6 (J3.out.later B6.out) HS3.out (J4.out.later B6.out) z3 z4 (by omega)).mono ?_
  rintro e w7 ⟨mp, rfl, hmp, hb7⟩
  have MP := hid hmp
  have B7 := hid hb7
  clear hmp hb7
  go_wp2_with fail
  refine (make29 w7 mp me va la vc).mono ?_
  rintro e w8 ⟨rfl, hR, hb8, hs8⟩
  have B58 := hid (B6.out.trans ((B7.out.trans (hb8.mono B7.out.size)).mono B6.out.size))
  have B68 := hid (B7.out.trans (hb8.mono B7.out.size))
  have L0 := hid (J0.out.later B58.out)
  have L1 := hid (J1.out.later B58.out)
  have L2 := hid (J2.out.later B58.out)
  have L3 := hid (J3.out.later B58.out)
  have L4 := hid (J4.out.later B58.out)
  have hXX : w7.heap.size < w8.heap.size := by omega
  have BX := hid ((Below.refl w8.heap.size w8).alloc (Nat.le_refl _) candZ)
  have KE := hid (show KMap (w8.alloc candZ) w8.heap.size me S1 W2 Q2 ne from KMap.below ⟨ME.out.later B68.out, fun b eb => (let ⟨m, hm⟩ := (ME.out.later B68.out).2 b eb; hm.lt), fun i hi => (L2.out.2 i (by omega)).toB (Nat.le_refl _), fun i hi => AS2.out i (by omega)⟩ BX.out)
  have KP := hid (show KMap (w8.alloc candZ) w8.heap.size mp S3 W4 Q4 np from KMap.below ⟨MP.out.later hb8, fun b eb => (let ⟨m, hm⟩ := (MP.out.later hb8).2 b eb; hm.lt), fun i hi => (L4.out.2 i (by omega)).toB (Nat.le_refl _), fun i hi => AS4.out i (by omega)⟩ BX.out)
  have RR := hid (hR.below BX.out hXX)
  have IV := hid ((L0.out.toB (X := w8.heap.size) (Nat.le_refl _)).below BX.out)
  have C42 := hid (zz30 _ _ _ _ _ _ (cands42 (w8.alloc candZ) w7.heap.size w8.heap.size mp me va la vc qa S3 S1 W4 W2 Q4 Q2 np ne path RR.out hXX KP.out KE.out HQA.out IV.out ASA.out k6 (by have h1 := K.out; have h2 := sm2.out; have h3 := sm4.out; omega) (AddSt.zero w8)))
  have BW8 := hid (BW.out.trans (B58.out.mono BW.out.size))
  unfold candZ at C42
  clear hR hb8 hs8 J0 J1 J2 J3 J4 KE KP RR IV ME MP B6 B7 B58 B68 BW
  go_wp2_with fail
  refine C42.out.mono ?_
  rintro e w9 ⟨rfl, hb9, hst9⟩
  have B89 := hid (show Below w8.heap.size w8 w9 from BX.out.trans hb9)
  have N0 := hid (L0.out.later B89.out)
  have N1 := hid (L1.out.later B89.out)
  have N2' := hid (L2.out.later B89.out)
  have N3 := hid (L3.out.later B89.out)
  have N4 := hid (L4.out.later B89.out)
  have ST := hid hst9
  clear hb9 hst9 C42 BX
  go_wp2_with fail
  refine (total14 u2 n2 d2 W2 Q2 w9 N2'.out (by have := ks2.out; omega) kn2).mono ?_
  rintro e w10 ⟨rfl, hw10⟩
  obtain rfl := hw10.symm
  obtain ⟨t2, ht2⟩ : ∃ t2, t2 = sumL Q2 n2 := ⟨_, rfl⟩
  rw [← ht2]
  have HT2 := hid ht2
  have kt2 : t2 ≤ 262144 := by have := ks2.out; omega
  clear ht2
  go_wp2_with fail
  refine (total14 u4 n4 d4 W4 Q4 w9 N4.out (by have := ks4.out; omega) kn4).mono ?_
  rintro e w10 ⟨rfl, hw11⟩
  obtain rfl := hw11.symm
  obtain ⟨t4, ht4⟩ : ∃ t4, t4 = sumL Q4 n4 := ⟨_, rfl⟩
  rw [← ht4]
  have HT4 := hid ht4
  have kt4 : t4 ≤ 262144 := by have := ks4.out; omega
  clear ht4
  have el : ((la : Int) + (t2 : Int)) + (t4 : Int) = ((la + t2 + t4 : Nat) : Int) := by omega
  have CD := hid (drainS w9 w8.heap.size _ _ (la + t2 + t4) ST.out (by have h1 := sm2.out; have h2 := sm4.out; have h3 := HT2.out; have h4 := HT4.out; omega) (by omega))
  obtain ⟨lim, hlim⟩ : ∃ lim, lim = la + t2 + t4 := ⟨_, rfl⟩
  rw [← hlim] at el CD
  have kl : lim ≤ 1048575 := by omega
  clear hlim
  go_wp2_with fail
  refine CD.out.mono ?_
  rintro e w10 ⟨gv, go, rfl, hgv, hb10, hgl, hga, hgm⟩
  obtain ⟨ga, gc, hge, _⟩ := id hgv
  obtain ⟨gl, hgl'⟩ : ∃ gl, gl = go.length := ⟨_, rfl⟩
  rw [← hgl'] at hge hgl
  subst hge
  have GV := hid hgv
  have GA := hid hga
  have GM := hid (fun x => (hgm x).trans (candM_want qa S1 S3 Q2 Q4 ne np path.data.toList x))
  have GL := hid hgl'
  have B810 := hid (B89.out.trans (hb10.mono (Nat.le_refl _)))
  have M0 := hid ((L0.out.later B810.out).mono (Nat.zero_le _))
  have M1 := hid (L1.out.later B810.out)
  have M2 := hid (L2.out.later B810.out)
  have M3 := hid (L3.out.later B810.out)
  have M4 := hid (L4.out.later B810.out)
  have BW10 := hid (BW8.out.trans (B810.out.mono BW8.out.size))
  obtain ⟨i0, hi, hz0, hz1, hz2⟩ := info_parts Try.info26
  clear hgv hga hgm hgl' hb10 L0 L1 L2 L3 L4 N0 N1 N2' N3 N4 ST CD el BW8 B89 B810
  go_wp2_with (first
    | (at_make; refine wpList_make_own _ rfl _ _ 22 rfl w10.heap.size 26 i0 (.slice none 0 0) 1 Try.underlying22 hi hz0 hz1 .i64 .i64 _ (1 + ne + np) rfl rfl (by omega) (by rw [hz2]; omega) (by unfold maxLen; omega) (Nat.le_refl _) ?_)
    | fail)
  intro w11 hown11 hg11
  have b11 : Below w10.heap.size w10 w11 := ⟨hg11.os, hg11.tape, hg11.output, hg11.size, fun k hk => hg11.block k hk (by simp)⟩
  have F0 := hid hown11
  have NX0 := hid (fun v' w2 hown hgrow => WSt.app (w0 := w10) (wr := w11) (M := fun _ => False) (cnt := 0) (tot := 0) (T := 0) (U := fun _ => undef) (P := fun _ => []) (o := .cells #[.slice va la vc] 26) (x := .slice va la vc) (q := qa) F0.out (fun j hj => absurd hj (by omega)) (fun y => ⟨fun ⟨j, hj, _⟩ => absurd hj (by omega), fun h => h.elim⟩) (Nat.le_refl _) (Nat.le_refl _) M0.out b11 (w1 := w2) (v' := v') hown hgrow)
  have hs11 := b11.size
  clear hown11 hg11
  go_wp2_with (first
    | (at_builtin; refine wpList_append_own _ rfl _ _ 22 rfl w10.heap.size 26 i0 (.slice none 0 0) 1 24 Try.underlying22 hi hz0 hz1 hz2 rfl (by decide) _ _ _ rfl (World.ownsRow.alloc F0.out _) ⟨w11.heap.size, 0, none⟩ 1 1 [.slice va la vc] rfl rfl (cell_one w11 _ _) (by intro u hu; simp at hu; subst hu; rfl) (by unfold maxLen; omega) (by omega) (by simp; omega) ?_)
    | fail)
  intro v1' w12 hown12 hg12 _
  obtain ⟨hws, hbb⟩ := NX0.out v1' w12 hown12 hg12
  have WS1 := hid (hws.congr (M' := MM (fun x => x ∈ qa) (fun i => IsLast S1 i ne ∧ (S1 i).data.toList = path.data.toList) Q2 0) (cnt' := 1) (tot' := la + sumL Q2 0) (fun x => by rw [← MM.zero]; simp) (by omega) (by rw [HQA.out]; omega))
  have BB1 := hid hbb
  clear hown12 hg12 hws hbb NX0 F0 b11 hs11
  go_wp2_with fail
  go_loopw [21, 22] (fun v vi wr => ∃ i : Nat, i ≤ ne ∧ vi = .int .i64 i ∧ Hid (WSt w10 wr v (MM (fun x => x ∈ qa) (fun i => IsLast S1 i ne ∧ (S1 i).data.toList = path.data.toList) Q2 i) (1 + i) (la + sumL Q2 i)) ∧ Below w10.heap.size w10 wr) (fun _ vi _ => ne - (intOf vi).toNat)
  case atStart => exact ⟨0, Nat.zero_le _, rfl, WS1, BB1.out⟩
  case round =>
    clear WS1 BB1
    obtain ⟨i, hile, rfl, WS, hbel⟩ := hrel
    by_cases hlt : i < ne
    · have hK1 := M1.out.later hbel
      have CL := hid (last31 u1 n1 d1 i ne S1 wr hK1 hlt z1 (by omega))
      obtain ⟨b, off, rfl, hcs⟩ := hK1.at (k := i) (by omega)
      obtain ⟨b2, o2, lx, lc, rfl, hcl, hvx, _, _, _⟩ := (M2.out.later hbel).at (k := i) (by omega)
      have HX := hid (show IntsF 0 w10 (.slice lx (Q2 i).length lc) (Q2 i) by rw [← hvx]; exact M2.out.2 i (by omega))
      have i1 : (i : Int) < (n1 : Int) := by omega
      have i2 : (i : Int) < (n2 : Int) := by omega
      have i3 : (i : Int) < (ne : Int) := by omega
      have HSL := hid (show sumL Q2 (i + 1) = sumL Q2 i + (Q2 i).length from rfl)
      have hws := hbel.size
      have HBL := hid hbel
      obtain ⟨ql, hql⟩ : ∃ ql, ql = (Q2 i).length := ⟨_, rfl⟩
      rw [← hql] at hcl HX
      have HQL := hid hql
      clear hK1 hvx hql hbel
      go_wp2_with fail
      refine CL.out.mono ?_
      rintro e wl ⟨bl, rfl, hbl, ml, rfl⟩
      cases bl
      · have HSK := hid (fun x => MM.skip (E := fun x => x ∈ qa) (C := fun i => IsLast S1 i ne ∧ (S1 i).data.toList = path.data.toList) (Q := Q2) (i := i) (fun h => by have := hbl.2 h.1; cases this) x)
        clear hbl CL
        go_wp2_with fail
        go_roundw
        case rel => exact ⟨i + 1, by omega, by go_num, hid ((WS.out.drewN ml).congr (fun x => HSK.out x) (by omega) (by have := HSL.out; omega)), belowN HBL.out ml⟩
        case measure => simp [intOf]; omega
      · have hil := hbl.1 rfl
        have HIL := hid hil
        clear hbl hil CL
        by_cases hpe : (S1 i).data.toList = path.data.toList
        · have d : ((S1 i).toList == path.toList) = true := by rw [Lib.toList_data, Lib.toList_data]; simp [hpe]
          have HPUT := hid (fun x => MM.put (E := fun x => x ∈ qa) (C := fun i => IsLast S1 i ne ∧ (S1 i).data.toList = path.data.toList) (Q := Q2) (i := i) ⟨HIL.out, hpe⟩ x)
          clear hpe
          obtain ⟨T, U, P, f1, f2, f3, f4, f5⟩ := WS.out
          have F1 := hid f1
          have NX := hid (fun v' w2 hown hgrow => WSt.app (o := .cells #[.slice lx ql lc] 26) (wr := wr.drewN ml) F1.out f2 f3 f4 f5 HX.out (belowN HBL.out ml) (w1 := w2) (v' := v') hown hgrow)
          have hTT : T ≤ 10000 := by omega
          clear f1 f2 f3 f5 WS
          go_wp2_with (first
            | (at_builtin; refine wpList_append_own _ rfl _ _ 22 rfl w10.heap.size 26 i0 (.slice none 0 0) 1 24 Try.underlying22 hi hz0 hz1 hz2 rfl (by decide) _ _ _ rfl (World.ownsRow.alloc (w := wr.drewN ml) F1.out _) ⟨wr.heap.size, 0, none⟩ 1 1 [.slice lx ql lc] rfl rfl (cell_one (wr.drewN ml) _ _) (by intro u hu; simp at hu; subst hu; rfl) (by unfold maxLen; omega) (by omega) (by simp; omega) ?_)
            | fail)
          intro v' w12 hown hgrow _
          obtain ⟨hws, hbb⟩ := NX.out v' w12 hown hgrow
          have WS2 := hid hws
          have BB2 := hid hbb
          clear hown hgrow hws hbb NX F1
          go_wp2_with fail
          go_roundw
          case rel => exact ⟨i + 1, by omega, by go_num, hid (WS2.out.congr (fun x => HPUT.out x) (by omega) (by have h1 := HQL.out; have h2 := HSL.out; omega)), BB2.out⟩
          case measure => simp [intOf]; omega
        · have d : ((S1 i).toList == path.toList) = false := by rw [Lib.toList_data, Lib.toList_data]; exact beq_false_of_ne hpe
          have HSK := hid (fun x => MM.skip (E := fun x => x ∈ qa) (C := fun i => IsLast S1 i ne ∧ (S1 i).data.toList = path.data.toList) (Q := Q2) (i := i) (fun h => hpe h.2) x)
          clear hpe
          go_wp2_with fail
          go_roundw
          case rel => exact ⟨i + 1, by omega, by go_num, hid ((WS.out.drewN ml).congr (fun x => HSK.out x) (by omega) (by have := HSL.out; omega)), belowN HBL.out ml⟩
          case measure => simp [intOf]; omega
    · obtain rfl : i = ne := by omega
      have WS1 := hid (WS.out.congr (M' := MM (MM (fun x => x ∈ qa) (fun i' => IsLast S1 i' i ∧ (S1 i').data.toList = path.data.toList) Q2 i) (fun i => IsLast S3 i np ∧ ElemPre (S3 i).data.toList path.data.toList) Q4 0) (cnt' := 1 + i + 0) (tot' := la + sumL Q2 i + sumL Q4 0) (fun x => MM.zero x) (by omega) (by omega))
      have BB1 := hid hbel
      clear WS hbel
      go_wp2_with fail
      go_loopw [21, 23] (fun v vi wr => ∃ j : Nat, j ≤ np ∧ vi = .int .i64 j ∧ Hid (WSt w10 wr v (MM (MM (fun x => x ∈ qa) (fun i' => IsLast S1 i' i ∧ (S1 i').data.toList = path.data.toList) Q2 i) (fun i => IsLast S3 i np ∧ ElemPre (S3 i).data.toList path.data.toList) Q4 j) (1 + i + j) (la + sumL Q2 i + sumL Q4 j)) ∧ Below w10.heap.size w10 wr) (fun _ vi _ => np - (intOf vi).toNat)
      case atStart => exact ⟨0, Nat.zero_le _, rfl, WS1, BB1.out⟩
      case round =>
        clear WS1 BB1
        have hine := z1
        obtain ⟨j, hjle, rfl, WS, hbel⟩ := hrel
        by_cases hltj : j < np
        · have hK1 := M3.out.later hbel
          have CL := hid (last31 u3 n3 d3 j np S3 wr hK1 hltj z3 (by omega))
          obtain ⟨b, off, rfl, hcs⟩ := hK1.at (k := j) (by omega)
          obtain ⟨b2, o2, lx, lc, rfl, hcl, hvx, _, _, _⟩ := (M4.out.later hbel).at (k := j) (by omega)
          have HX := hid (show IntsF 0 w10 (.slice lx (Q4 j).length lc) (Q4 j) by rw [← hvx]; exact M4.out.2 j (by omega))
          have i1 : (j : Int) < (n3 : Int) := by omega
          have i2 : (j : Int) < (n4 : Int) := by omega
          have i3 : (j : Int) < (np : Int) := by omega
          have HSL := hid (show sumL Q4 (j + 1) = sumL Q4 j + (Q4 j).length from rfl)
          have hws := hbel.size
          have HBL := hid hbel
          have CE := hid (fun W => elem32 (S3 j) path W (by have := HS3.out j; unfold maxLen at this; exact this) HSP.out)
          obtain ⟨ql, hql⟩ : ∃ ql, ql = (Q4 j).length := ⟨_, rfl⟩
          rw [← hql] at hcl HX
          have HQL := hid hql
          clear hK1 hvx hql hbel
          go_wp2_with fail
          refine CL.out.mono ?_
          rintro e wl ⟨bl, rfl, hbl, ml, rfl⟩
          cases bl
          · have HSK := hid (fun x => MM.skip (E := MM (fun x => x ∈ qa) (fun i' => IsLast S1 i' i ∧ (S1 i').data.toList = path.data.toList) Q2 i) (C := fun i => IsLast S3 i np ∧ ElemPre (S3 i).data.toList path.data.toList) (Q := Q4) (i := j) (fun h => by have := hbl.2 h.1; cases this) x)
            clear hbl CL
            go_wp2_with fail
            go_roundw
            case rel => exact ⟨j + 1, by omega, by go_num, hid ((WS.out.drewN ml).congr (fun x => HSK.out x) (by omega) (by have := HSL.out; omega)), belowN HBL.out ml⟩
            case measure => simp [intOf]; omega
          · have hil := hbl.1 rfl
            have HIL := hid hil
            clear hbl hil CL
            go_wp2_with fail
            refine (CE.out _).mono ?_
            rintro e wl ⟨bl, rfl, hbl, me', rfl⟩
            cases bl
            · have HSK := hid (fun x => MM.skip (E := MM (fun x => x ∈ qa) (fun i' => IsLast S1 i' i ∧ (S1 i').data.toList = path.data.toList) Q2 i) (C := fun i => IsLast S3 i np ∧ ElemPre (S3 i).data.toList path.data.toList) (Q := Q4) (i := j) (fun h => by have := hbl.2 h.2; cases this) x)
              clear hbl CE
              go_wp2_with fail
              go_roundw
              case rel => exact ⟨j + 1, by omega, by go_num, hid (WSt.congr (WS.out.drewN (ml + me')) (fun x => HSK.out x) (by omega) (by have := HSL.out; omega)), belowN HBL.out (ml + me')⟩
              case measure => simp [intOf]; omega
            · have HPUT := hid (fun x => MM.put (E := MM (fun x => x ∈ qa) (fun i' => IsLast S1 i' i ∧ (S1 i').data.toList = path.data.toList) Q2 i) (C := fun i => IsLast S3 i np ∧ ElemPre (S3 i).data.toList path.data.toList) (Q := Q4) (i := j) ⟨HIL.out, hbl.1 rfl⟩ x)
              clear hbl CE
              obtain ⟨T, U, P, f1, f2, f3, f4, f5⟩ := WS.out
              have F1 := hid f1
              have NX := hid (fun v' w2 hown hgrow => WSt.app (o := .cells #[.slice lx ql lc] 26) (wr := wr.drewN (ml + me')) F1.out f2 f3 f4 f5 HX.out (belowN HBL.out (ml + me')) (w1 := w2) (v' := v') hown hgrow)
              have hTT : T ≤ 10000 := by omega
              clear f1 f2 f3 f5 WS
              go_wp2_with (first
                | (at_builtin; refine wpList_append_own _ rfl _ _ 22 rfl w10.heap.size 26 i0 (.slice none 0 0) 1 24 Try.underlying22 hi hz0 hz1 hz2 rfl (by decide) _ _ _ rfl (World.ownsRow.alloc (w := wr.drewN (ml + me')) F1.out _) ⟨wr.heap.size, 0, none⟩ 1 1 [.slice lx ql lc] rfl rfl (cell_one (wr.drewN (ml + me')) _ _) (by intro u hu; simp at hu; subst hu; rfl) (by unfold maxLen; omega) (by omega) (by simp; omega) ?_)
                | fail)
              intro v' w12 hown hgrow _
              obtain ⟨hws, hbb⟩ := NX.out v' w12 hown hgrow
              have WS2 := hid hws
              have BB2 := hid hbb
              clear hown hgrow hws hbb NX F1
              go_wp2_with fail
              go_roundw
              case rel => exact ⟨j + 1, by omega, by go_num, hid (WS2.out.congr (fun x => HPUT.out x) (by omega) (by have h1 := HQL.out; have h2 := HSL.out; omega)), BB2.out⟩
              case measure => simp [intOf]; omega
        · obtain rfl : j = np := by omega
          obtain ⟨ta, tT, tc, tU, tP, hve2, hls, hmem, hcnt, htot⟩ := WS.out.ls hbel (by omega)
          subst hve2
          have CU := hid (union16 ta tT tc tU tP wr hls (by have h1 := K.out; have h2 := sm2.out; have h3 := sm4.out; omega) (by omega))
          have HMEM := hid hmem
          have BBL := hid hbel
          clear hls hmem htot WS hbel
          go_wp2_with fail
          refine CU.out.mono ?_
          rintro e w13 ⟨v2, u, rfl, hv2, hua, hum, hul, hb13⟩
          have B13 := hid (BBL.out.trans (hb13.mono BBL.out.size))
          obtain ⟨_, _, hve3, _, hvA, _⟩ := GV.out.later B13.out
          rw [← GL.out] at hve3 hvA
          cases hve3
          obtain ⟨ua, uc, hue, _, huA, _⟩ := hv2
          obtain ⟨ul, hulx⟩ : ∃ ul, ul = u.length := ⟨_, rfl⟩
          rw [← hulx] at hue huA
          subst hue
          have C15 := hid (equal15 ga ua gc uc gl ul go u w13 hvA huA GL.out.symm hulx.symm (by omega) (by omega))
          have HEQ := hid (asc_eq GA.out hua (fun x => (GM.out x).trans ((HMEM.out x).symm.trans (hum x).symm)))
          have BF := hid (BW10.out.trans (B13.out.mono BW10.out.size))
          clear hua hum hulx hul hb13 hvA huA CU
          go_wp2_with fail
          refine C15.out.mono ?_
          rintro e w14 ⟨b, rfl, hb, q14, rfl⟩
          obtain rfl : b = true := hb.2 HEQ.out
          clear hb C15
          go_wp2_with fail
          go_ret
          exact ⟨rfl, belowN BF.out _⟩
end Go.Proofs.Qxb6600159a
