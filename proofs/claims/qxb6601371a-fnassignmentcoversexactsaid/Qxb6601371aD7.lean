import Derived.Test.Qxb6601371aD6
namespace Go.Proofs.Qxb6601371a
open Go.RowKit
set_option linter.unusedVariables false

/-- What the law has seen, and the world. -/
def Seen (w5 : World) (QN : Nat) (QB : Bool) (v15 v16 : Value) (wr : World) : Prop := v15 = .int .i64 (QN : Int) ∧ v16 = .bool QB ∧ ∃ m, wr = w5.drewN m
/-- The law's own scan. -/
def SRel (w5 : World) (g ok : Nat → Bool) (fr tt QN : Nat) (QB : Bool) (v15 v16 v17 : Value) (wr : World) : Prop :=
  ∃ k j : Nat, v15 = .int .i64 (k : Int) ∧ v16 = .bool false ∧ v17 = .int .i64 ((j : Int) - 1) ∧ fr ≤ j ∧ j ≤ tt ∧ Hid ((QN, QB) = (k + (scan g ok fr j).1, (scan g ok fr j).2)) ∧ ∃ m, wr = w5.drewN m

set_option maxRecDepth 100000 in
set_option maxHeartbeats 4000000 in
theorem law6 (w : World) (s L : Int) (a2 a3 : Option Addr) (n2 c2 n3 c3 : Nat) (z X Y Z : Nat → Int) (f0 f1 f2 bd cl : Int) (mg : Bool) (r0 : Bool) (r1 r2 r3 : Int) (r4 : Bool) (r5 : Int) (hs0 : -9223372036854775808 ≤ s) (hs1 : s ≤ 9223372036854775807) (hz : Arr w a2 n2 fun i => .int .i64 (z i)) (hn3 : n3 ≤ 9223372036854775807) (hcl : n3 ≤ 65536 → Cls w a3 n3 X Y Z) :
    Calls Try.prog 6 #[.int .i64 s, .int .i64 L, .slice a2 n2 c2, .slice a3 n3 c3, .agg #[.int .i64 f0, .int .i64 f1, .int .i64 f2, .int .i64 bd, .int .i64 cl, .bool mg], .agg #[.bool r0, .int .i64 r1, .int .i64 r2, .int .i64 r3, .bool r4, .int .i64 r5]] w (LawPost w) := by
  obtain ⟨w0, hw0⟩ : ∃ w0, w0 = (w.alloc (.cells #[.int .i64 f0, .int .i64 f1, .int .i64 f2, .int .i64 bd, .int .i64 cl, .bool mg] 29)).alloc (.cells #[.bool r0, .int .i64 r1, .int .i64 r2, .int .i64 r3, .bool r4, .int .i64 r5] 43) := ⟨_, rfl⟩
  have hb : Below w.heap.size w w0 := by rw [hw0]; exact ((Below.refl _ _).alloc (Nat.le_refl _) _).alloc (by simp) _
  have hsz0 : w0.heap.size = w.heap.size + 2 := by rw [hw0]; simp
  have hfc := fun (i : Nat) (v : Value) (hv : (#[.int .i64 f0, .int .i64 f1, .int .i64 f2, .int .i64 bd, .int .i64 cl, .bool mg] : Array Value)[i]? = some v) => (show w0.cell? ⟨w.heap.size, i, none⟩ = some v by
    rw [hw0]
    exact cell_alloc (resC (t := 29) (heap_last _ _) i v hv) _)
  have hrc := fun (i : Nat) (v : Value) (hv : (#[.bool r0, .int .i64 r1, .int .i64 r2, .int .i64 r3, .bool r4, .int .i64 r5] : Array Value)[i]? = some v) => (show w0.cell? ⟨w.heap.size + 1, i, none⟩ = some v by
    have e1 : (w.alloc (.cells #[.int .i64 f0, .int .i64 f1, .int .i64 f2, .int .i64 bd, .int .i64 cl, .bool mg] 29)).heap.size = w.heap.size + 1 := by simp
    rw [hw0, ← e1]
    exact resC (t := 43) (heap_last _ _) i v hv)
  have FC := hid hfc
  have RC := hid hrc
  have HB := hid hb
  have HZ := hid hz
  have CL := hid hcl
  have hn2 := hz.1
  have HS0 := hid hsz0
  clear hfc hrc hb hz hcl hsz0
  go_enter Try.func6, Try.ntmps6
  go_wp2_with fail
  rw [← hw0]
  clear hw0
  refine (zz20 s L a2 a3 n2 n3 c2 c3 f0 f1 f2 bd cl mg r0 r4 r1 r2 r3 r5 w0 hn2 (by omega)).mono ?_
  rintro e w1 ⟨b, rfl, hb1⟩
  have H1 := hid hb1
  have B1 := hid (HB.out.trans (hb1.mono HB.out.size))
  clear hb1
  cases b
  · go_wp2_with fail
    go_ret
    exact ⟨rfl, B1.out⟩
  by_cases g2 : 131072 < n2
  · go_wp2_with fail
    go_ret
    exact ⟨rfl, B1.out⟩
  by_cases g3 : 65536 < n3
  · go_wp2_with fail
    go_ret
    exact ⟨rfl, B1.out⟩
  by_cases g8 : 1048576 < 8 * n2 + 24 * n3
  · have g9 : (1048576 : Int) < 8 * (n2 : Int) + 24 * (n3 : Int) := by omega
    go_wp2_with fail
    go_ret
    exact ⟨rfl, B1.out⟩
  have g9 : ¬ (1048576 : Int) < 8 * (n2 : Int) + 24 * (n3 : Int) := by omega
  have y0 := cell_later H1.out (FC.out 0 _ rfl)
  have y1 := cell_later H1.out (FC.out 1 _ rfl)
  have y2 := cell_later H1.out (FC.out 2 _ rfl)
  have y3 := cell_later H1.out (FC.out 3 _ rfl)
  have y4 := cell_later H1.out (FC.out 4 _ rfl)
  have y5 := cell_later H1.out (FC.out 5 _ rfl)
  have x0 := cell_later H1.out (RC.out 0 _ rfl)
  have x1 := cell_later H1.out (RC.out 1 _ rfl)
  have x2 := cell_later H1.out (RC.out 2 _ rfl)
  have x3 := cell_later H1.out (RC.out 3 _ rfl)
  have x4 := cell_later H1.out (RC.out 4 _ rfl)
  have x5 := cell_later H1.out (RC.out 5 _ rfl)
  go_wp2_with fail
  refine (dom21 L a2 a3 n2 c2 n3 c3 z f0 f1 f2 bd cl mg w1 (HZ.out.later B1.out) (by omega)).mono ?_
  rintro e w2 ⟨b, rfl, hd, hb2⟩
  have HD := hid hd
  have B2 := hid (B1.out.trans (hb2.mono B1.out.size))
  have H2 := hid (H1.out.trans (hb2.mono H1.out.size))
  clear hd hb2 H1 B1
  clear y0 y1 y2 y3 y4 y5 x0 x1 x2 x3 x4 x5
  cases b
  · go_wp2_with fail
    go_ret
    exact ⟨rfl, B2.out⟩
  obtain ⟨hsh, hf0, hff⟩ := HD.out rfl
  obtain ⟨fr, rfl⟩ := Int.eq_ofNat_of_zero_le hf0
  have HD' := hid (And.intro hsh hff)
  clear HD hsh hff hf0 g9
  go_wp2_with fail
  refine (clone10 a2 n2 c2 z w2 (HZ.out.later B2.out) (by omega)).mono ?_
  rintro e w3 ⟨a2', c2', rfl, k3, _, hb3⟩
  have K3 := hid k3
  have B3 := hid (B2.out.trans (hb3.mono B2.out.size))
  have H3 := hid (H2.out.trans (hb3.mono H2.out.size))
  clear k3 hb3 H2 B2
  go_wp2_with fail
  refine (copy22 a3 c3 n3 X Y Z w3 ((CL.out (by omega)).later B3.out) (by omega)).mono ?_
  rintro e w4 ⟨a3', c3', rfl, k4, hb4⟩
  have K4 := hid k4
  have K3' := hid (K3.out.later hb4)
  have B4 := hid (B3.out.trans (hb4.mono B3.out.size))
  have H4 := hid (H3.out.trans (hb4.mono H3.out.size))
  clear k4 hb4 H3 B3 K3
  have y0 := cell_later H4.out (FC.out 0 _ rfl)
  have y1 := cell_later H4.out (FC.out 1 _ rfl)
  have y2 := cell_later H4.out (FC.out 2 _ rfl)
  have y3 := cell_later H4.out (FC.out 3 _ rfl)
  have y4 := cell_later H4.out (FC.out 4 _ rfl)
  have y5 := cell_later H4.out (FC.out 5 _ rfl)
  have x0 := cell_later H4.out (RC.out 0 _ rfl)
  have x1 := cell_later H4.out (RC.out 1 _ rfl)
  have x2 := cell_later H4.out (RC.out 2 _ rfl)
  have x3 := cell_later H4.out (RC.out 3 _ rfl)
  have x4 := cell_later H4.out (RC.out 4 _ rfl)
  have x5 := cell_later H4.out (RC.out 5 _ rfl)
  obtain ⟨l, hl⟩ : ∃ l : Nat, l = L.toNat := ⟨_, rfl⟩
  have HT := hid (show TreeOk w4.heap.size w4 a2' n2 l z L fr f1 from fun hlt => by
    obtain ⟨hsh, hff⟩ := HD'.out
    have h1 := hff hlt
    rcases hsh with ⟨h0, _⟩ | ⟨p, hp, hp2, hnp, hh⟩
    · omega
    · have el : l = 2 ^ p := by rw [hl, hp]; rfl
      rw [← el] at hp hp2 hnp hh
      obtain ⟨b, o, rfl, _⟩ := K3'.out.at (k := 0) (by omega)
      exact ⟨p, b, o, hp, el, hp2, hnp, hh, rfl, by omega, fun W hW => K3'.out.later hW⟩)
  have HF := hid (show (fr : Int) < f1 → f1 ≤ n3 from fun h => (HD'.out.2 h).2)
  have C23 := hid (covers23 w4 n3 c3' a2' a3' n2 c2' l z X Y Z L s f1 f2 bd cl mg fr r0 r1 r2 r3 r4 r5 hs0 hs1 K4.out HF.out (by omega) HT.out)
  obtain ⟨Q, hQ⟩ : ∃ Q, Q = scan (gB z l bd) (okB Y Z r2 r3) fr f1.toNat := ⟨_, rfl⟩
  rw [← hQ] at C23
  obtain ⟨QN, QB⟩ := Q
  obtain ⟨q, hq⟩ : ∃ q, q = cov s (QN, QB) := ⟨_, rfl⟩
  rw [← hq] at C23
  obtain ⟨q1, q2⟩ := q
  have hQN : QN ≤ f1.toNat := by
    have := scan_len (g := gB z l bd) (ok := okB Y Z r2 r3) (fr := fr) f1.toNat
    rw [← hQ] at this
    exact this
  have hQN2 : QN ≤ 65536 := by
    by_cases h : (fr : Int) < f1
    · have := HF.out h; omega
    · rw [scan_low (by omega)] at hQ
      cases hQ
      omega
  have HQ := hid hQ
  have HQ2 := hid hq
  clear hQ hq HD' hl
  go_wp2_with fail
  refine C23.out.mono ?_
  rintro e w5 ⟨rfl, hb5⟩
  have K5 := hid (K4.out.later hb5)
  have K6 := hid (K3'.out.later hb5)
  have B5 := hid (B4.out.trans (hb5.mono B4.out.size))
  have H5 := hid (H4.out.trans (hb5.mono H4.out.size))
  clear hb5 H4 B4 K4 K3' C23
  clear y0 y1 y2 y3 y4 y5 x0 x1 x2 x3 x4 x5
  have y0 := cell_later H5.out (FC.out 0 _ rfl)
  have y1 := cell_later H5.out (FC.out 1 _ rfl)
  have y2 := cell_later H5.out (FC.out 2 _ rfl)
  have y3 := cell_later H5.out (FC.out 3 _ rfl)
  have y4 := cell_later H5.out (FC.out 4 _ rfl)
  have y5 := cell_later H5.out (FC.out 5 _ rfl)
  have x0 := cell_later H5.out (RC.out 0 _ rfl)
  have x1 := cell_later H5.out (RC.out 1 _ rfl)
  have x2 := cell_later H5.out (RC.out 2 _ rfl)
  have x3 := cell_later H5.out (RC.out 3 _ rfl)
  have x4 := cell_later H5.out (RC.out 4 _ rfl)
  have x5 := cell_later H5.out (RC.out 5 _ rfl)
  clear y2 y4 y5 x0 x1 x4 x5
  go_upto_if 66 with fail
  go_cut [15, 16, 17] (fun v15 v16 v17 wr => Seen w5 QN QB v15 v16 wr)
  case first =>
    by_cases hlt : (fr : Int) < f1
    · obtain ⟨tt, rfl⟩ : ∃ tt : Nat, f1 = (tt : Int) := ⟨f1.toNat, by omega⟩
      have hlt2 : fr < tt := by omega
      have hlt3 : ¬ tt ≤ fr := by omega
      obtain ⟨p, b6, o6, rfl, -, hl2, hnl, -, rfl, htl, -⟩ := HT.out hlt
      have htn := HF.out hlt
      have HNL := hid hnl
      clear hnl hQN
      have S0 := hid (show SRel w5 (gB z l bd) (okB Y Z r2 r3) fr tt QN QB (.int .i64 0) (.bool false) (.int .i64 ((tt : Int) - 1)) w5 from ⟨0, tt, rfl, rfl, rfl, by omega, Nat.le_refl _, hid (by rw [HQ.out, Nat.zero_add]; rfl), 0, rfl⟩)
      go_wp2_with fail
      go_loopw [15, 16, 17] (fun v15 v16 v17 wr => SRel w5 (gB z l bd) (okB Y Z r2 r3) fr tt QN QB v15 v16 v17 wr) (fun _ _ v17 _ => (intOf v17 + 1).toNat)
      case atStart => exact S0.out
      case round =>
        clear S0
        obtain ⟨k, j, rfl, rfl, rfl, hj1, hj2, hE, m, hm⟩ := hrel
        have HM := hid hm
        have p0 : wr.cell? ⟨w.heap.size, 0, none⟩ = some (.int .i64 (fr : Int)) := by rw [hm]; exact y0
        have p3 : wr.cell? ⟨w.heap.size, 3, none⟩ = some (.int .i64 bd) := by rw [hm]; exact y3
        have u2 : wr.cell? ⟨w.heap.size + 1, 2, none⟩ = some (.int .i64 r2) := by rw [hm]; exact x2
        have u3 : wr.cell? ⟨w.heap.size + 1, 3, none⟩ = some (.int .i64 r3) := by rw [hm]; exact x3
        by_cases hj : fr < j
        · obtain ⟨i, rfl⟩ : ∃ i, j = i + 1 := ⟨j - 1, by omega⟩
          have em : ((i + 1 : Nat) : Int) - 1 = (i : Int) := by omega
          rw [em]
          have cm : wr.cell? ⟨b6, o6 + (l + i), none⟩ = some (.int .i64 (z (l + i))) := by rw [hm]; exact K6.out.cell (k := l + i) (by have := HNL.out; omega)
          obtain ⟨b7, o7, rfl, c0, c1, c2⟩ := K5.out.at (k := i) (by omega)
          have d1 : wr.cell? ⟨b7, o7 + i * 3 + 1, none⟩ = some (.int .i64 (Y i)) := by rw [hm]; exact c1
          have d2 : wr.cell? ⟨b7, o7 + i * 3 + 2, none⟩ = some (.int .i64 (Z i)) := by rw [hm]; exact c2
          have l1 : ((l : Int) + (i : Int)) < (n2 : Int) := by have := HNL.out; omega
          have l2 : (i : Int) < (n3 : Int) := by omega
          have hfi : fr ≤ i := by omega
          clear em hm c0 c1 c2 y0 y1 y3 x2 x3 hj
          by_cases hg : bd ≤ z (l + i)
          · have hgb : gB z l bd i = true := decide_eq_true hg
            have dg : decide (bd ≤ z (l + i)) = true := decide_eq_true hg
            by_cases ho : r2 ≤ Y i ∧ Z i ≤ r3
            · have hob : okB Y Z r2 r3 i = true := decide_eq_true ho
              have da : decide (r2 ≤ Y i) = true := decide_eq_true ho.1
              have db : decide (Z i ≤ r3) = true := decide_eq_true ho.2
              have E2 := hE.out
              rw [scan_hit hgb hfi hob] at E2
              have e1 : QN = k + 1 := by cases E2; rfl
              have e2 : QB = true := by cases E2; rfl
              have E1 := hid (And.intro e1 e2)
              have hk1 : k + 1 ≤ 65536 := by omega
              clear hE hgb hg ho hob E2 e1 e2
              go_wp2_with fail
              go_quiet (fail)
              go_wp2_with fail
              go_quiet (fail)
              go_wp2_with fail
              go_meet
              case rel => exact ⟨by rw [E1.out.1]; rfl, by rw [E1.out.2], by rw [HM.out]; simp only [World.drewN_drewN]; exact ⟨_, rfl⟩⟩
            · have hob : okB Y Z r2 r3 i = false := decide_eq_false ho
              have E2 := hid (show (QN, QB) = (k + 1 + (scan (gB z l bd) (okB Y Z r2 r3) fr i).1, (scan (gB z l bd) (okB Y Z r2 r3) fr i).2) by rw [hE.out, scan_miss hgb hfi hob, Nat.add_assoc, Nat.add_comm 1])
              have hk1 : k + 1 ≤ 65536 := by
                have : QN = k + 1 + (scan (gB z l bd) (okB Y Z r2 r3) fr i).1 := congrArg Prod.fst E2.out
                omega
              clear hE hgb hg hob
              by_cases hra : r2 ≤ Y i
              · have da : decide (r2 ≤ Y i) = true := decide_eq_true hra
                have db : decide (Z i ≤ r3) = false := decide_eq_false (fun h => ho ⟨hra, h⟩)
                clear ho hra
                go_wp2_with fail
                go_quiet (fail)
                go_wp2_with fail
                go_quiet (fail)
                go_wp2_with fail
                go_roundw
                case rel => exact ⟨k + 1, i, rfl, rfl, rfl, hfi, by omega, E2, by rw [HM.out]; simp only [World.drewN_drewN]; exact ⟨_, rfl⟩⟩
                case measure => simp [intOf]
              · have da : decide (r2 ≤ Y i) = false := decide_eq_false hra
                clear ho hra
                go_wp2_with fail
                go_quiet (fail)
                go_wp2_with fail
                go_quiet (fail)
                go_wp2_with fail
                go_roundw
                case rel => exact ⟨k + 1, i, rfl, rfl, rfl, hfi, by omega, E2, by rw [HM.out]; simp only [World.drewN_drewN]; exact ⟨_, rfl⟩⟩
                case measure => simp [intOf]
          · have hgb : gB z l bd i = false := decide_eq_false hg
            have dg : decide (bd ≤ z (l + i)) = false := decide_eq_false hg
            have E2 := hid (show (QN, QB) = (k + (scan (gB z l bd) (okB Y Z r2 r3) fr i).1, (scan (gB z l bd) (okB Y Z r2 r3) fr i).2) by rw [hE.out, scan_skip hgb hfi])
            clear hE hgb hg
            go_wp2_with fail
            go_quiet (fail)
            go_wp2_with fail
            go_roundw
            case rel => exact ⟨k, i, rfl, rfl, rfl, hfi, by omega, E2, m + nq, by rw [HM.out]; exact World.drewN_drewN _ _ _⟩
            case measure => simp [intOf]
        · have e : j = fr := by omega
          subst e
          have E2 := hE.out
          rw [scan_low (Nat.le_refl _)] at E2
          have e1 : QN = k := by cases E2; rfl
          have e2 : QB = false := by cases E2; rfl
          subst e1 e2
          clear E2 hE hm
          go_wp2_with fail
          go_meet
          case rel => exact ⟨rfl, rfl, m, HM.out⟩
    · have h0 := HQ.out
      rw [scan_low (by omega)] at h0
      cases h0
      go_wp2_with fail
      go_meet
      case rel => exact ⟨rfl, rfl, 0, rfl⟩
  case rest =>
    obtain ⟨rfl, rfl, m, hm⟩ := hcut
    rename World => wr
    have HM := hid hm
    have BF : Hid (Below w.heap.size w wr) := hid (by rw [hm]; exact belowN B5.out m)
    clear hm
    cases QB
    · by_cases hlt : (QN : Int) < s
      · have e := HQ2.out
        have e1 : q1 = false := by rw [show q1 = (cov s (QN, false)).1 by rw [← e]]; rfl
        have e2 : q2 = s - QN - 1 := by rw [show q2 = (cov s (QN, false)).2 by rw [← e]]; simp [cov, hlt]
        clear e HQ2 HQ
        subst e1 e2
        go_wp2_with fail
        go_ret
        exact ⟨by simp, BF.out⟩
      · have e := HQ2.out
        have e1 : q1 = false := by rw [show q1 = (cov s (QN, false)).1 by rw [← e]]; rfl
        have e2 : q2 = -1 := by rw [show q2 = (cov s (QN, false)).2 by rw [← e]]; simp [cov, hlt]
        clear e HQ2 HQ
        subst e1 e2
        go_wp2_with fail
        go_ret
        exact ⟨by simp, BF.out⟩
    · by_cases hlt : (QN : Int) ≤ s
      · have e := HQ2.out
        have e1 : q1 = true := by rw [show q1 = (cov s (QN, true)).1 by rw [← e]]; simp [cov, hlt]
        have e2 : q2 = s - QN := by rw [show q2 = (cov s (QN, true)).2 by rw [← e]]; simp [cov, hlt]
        clear e HQ2 HQ
        subst e1 e2
        go_wp2_with fail
        go_ret
        exact ⟨by simp, BF.out⟩
      · have e := HQ2.out
        have e1 : q1 = false := by rw [show q1 = (cov s (QN, true)).1 by rw [← e]]; simp [cov, hlt]
        have e2 : q2 = -1 := by rw [show q2 = (cov s (QN, true)).2 by rw [← e]]; simp [cov, hlt]
        clear e HQ2 HQ
        subst e1 e2
        go_wp2_with fail
        go_ret
        exact ⟨by simp, BF.out⟩
end Go.Proofs.Qxb6601371a
