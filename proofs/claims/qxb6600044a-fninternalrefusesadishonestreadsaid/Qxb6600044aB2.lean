import Derived.Test.Qxb6600044aB0
namespace Go.Proofs.Qxb6600044a
open Go.RowKit
set_option linter.unusedVariables false

theorem wrap_succ_ne (x : Int) : wrap64 (x + 1) ≠ x := by
  unfold wrap64
  omega

theorem wrap_small (x : Int) (p : Nat) (h : x = p) (hp : p ≤ 1200000) : wrap64 x = p := by
  unfold wrap64
  omega

theorem shift_pos (fl : Int) (m : Nat) (hm : 0 < m) : (fl.tmod m < 0 → ∃ p : Nat, fl.tmod m + m = p ∧ p < m) ∧ (¬ fl.tmod m < 0 → ∃ p : Nat, fl.tmod m = p ∧ p < m) := by
  have h1 := Int.tmod_lt_of_pos fl (b := (m : Int)) (by omega)
  have h2 : -(m : Int) < fl.tmod m := by
    have := Int.tmod_lt_of_pos (-fl) (b := (m : Int)) (by omega)
    rw [Int.neg_tmod] at this
    omega
  exact ⟨fun h => ⟨(fl.tmod m + m).toNat, by omega, by omega⟩, fun h => ⟨(fl.tmod m).toNat, by omega, by omega⟩⟩

/-- A list that is too short does not fit. -/
theorem short_unfit (p lb : Nat) (zl zb : Nat → Int) (S : List Int) (h : p < lb + S.length) : ¬ Fits p zl lb zb S := by
  rintro ⟨h1, _⟩; omega

/-- An honest list with one element of the head or of the tail changed does not fit. -/
theorem changed_unfit (lb m : Nat) (zb Mi : Nat → Int) (S : List Int) (x : Nat) (hx : x < lb ∨ (lb + m ≤ x ∧ x < lb + m + S.length)) (u : Int)
    (hu : u ≠ (tab lb zb ++ (tab m Mi ++ S)).getD x 0) : ¬ Fits (lb + m + S.length) (fun i => ((tab lb zb ++ (tab m Mi ++ S)).set x u).getD i 0) lb zb S := by
  have hl : (tab lb zb ++ (tab m Mi ++ S)).length = lb + m + S.length := by simp [tab]; omega
  have hg : ((tab lb zb ++ (tab m Mi ++ S)).set x u).getD x 0 = u := by
    simp only [List.getD_eq_getElem?_getD]
    rw [List.getElem?_set_self (by omega)]
    rfl
  have hh := honest_fits lb m zb Mi S
  rintro ⟨h1, h2, h3⟩
  rcases hx with hx | ⟨hx, hx2⟩
  · have := h2 x hx
    simp only [hg] at this
    have h4 := hh.2.1 x hx
    simp only at h4
    exact hu (this.trans h4.symm)
  · have e : lb + m + S.length - S.length + (x - (lb + m)) = x := by omega
    have := h3 (x - (lb + m)) (by omega)
    rw [e] at this
    simp only [hg] at this
    have h4 := hh.2.2 (x - (lb + m)) (by omega)
    rw [e] at h4
    exact hu (this.trans h4.symm)

/-- What the two ways hand on: a list of the law's own that does not fit. -/
def Unfit (w8 : World) (lb : Nat) (zb : Nat → Int) (Sx : List Int) (v : Value) (wr : World) : Prop :=
  ∃ (bl ll cl : Nat) (zl : Nat → Int), v = .slice (some ⟨bl, 0, none⟩) ll cl ∧ ll ≤ cl ∧ ll ≤ 2000000 ∧ Ints w8.heap.size wr (.slice (some ⟨bl, 0, none⟩) ll cl) ll zl ∧ Below w8.heap.size w8 wr ∧ Hid (¬ Fits ll zl lb zb Sx)

theorem changed_rel {w8 wc : World} {lst Sx : List Int} {nl lb n5 : Nat} {zb Mi : Nat → Int} (hown : wc.ownsRow w8.heap.size 2 1 (.slice (some ⟨w8.heap.size, 0, none⟩) nl nl) nl (iv lst)) (hb : Below w8.heap.size w8 wc)
    (hlst : lst = tab lb zb ++ (tab n5 Mi ++ Sx)) (hnl : nl = lb + n5 + Sx.length) (hlen : lst.length = nl) (hn2 : nl ≤ 2000000) (x0 : Nat) (hx : x0 < lb ∨ (lb + n5 ≤ x0 ∧ x0 < lb + n5 + Sx.length)) :
    Unfit w8 lb zb Sx (.slice (some ⟨w8.heap.size, 0, none⟩) nl nl) (wc.setCell ⟨w8.heap.size, x0, none⟩ (.int .i64 (wrap64 (lst.getD x0 0 + 1)))) := by
  obtain ⟨hst, hgr⟩ := hown.stored x0 (.int .i64 (wrap64 (lst.getD x0 0 + 1)))
  have e : (iv lst).set x0 (.int .i64 (wrap64 (lst.getD x0 0 + 1))) = iv (lst.set x0 (wrap64 (lst.getD x0 0 + 1))) := by simp [iv, List.map_set]
  rw [e] at hst
  refine ⟨w8.heap.size, nl, nl, _, rfl, Nat.le_refl _, hn2, own_list hst (by simpa using hlen) (by omega), hb.grown hgr hb.size (fun k hk => by simp at hk; omega), hid ?_⟩
  subst hlst hnl
  exact changed_unfit lb n5 zb Mi Sx x0 hx _ (wrap_succ_ne _)

set_option maxRecDepth 100000 in
set_option maxHeartbeats 4000000 in
theorem law7 (a0 a1 a2 a3 a5 a6 : Option Addr) (n0 n1 n2 n3 n5 n6 c0 c1 c2 c3 c5 c6 : Nat) (K : Nat → Int) (R : Nat → Bool) (E : Nat → Int) (V : Nat → Value) (L : Nat → Nat) (Z : Nat → Nat → Int) (Mi : Nat → Int) (Ow : Nat → Int) (jj fl : Int) (sh : Bool) (iv0 cp : Int) (w : World)
    (S : Script w a0 a1 a2 a3 n0 n1 n2 n3 K R E V L Z) (hmi : Arr w a5 n5 fun i => .int .i64 (Mi i)) (hmk : Arr w a6 n6 fun i => .int .i64 (Ow i)) :
    Calls Try.prog 7 #[.slice a0 n0 c0, .slice a1 n1 c1, .slice a2 n2 c2, .slice a3 n3 c3, .int .i64 jj, .slice a5 n5 c5, .slice a6 n6 c6, .int .i64 fl, .bool sh, .int .i64 iv0, .int .i64 cp] w (LawPost w) := by
  have hr2 := S.rows2
  go_enter Try.func7, Try.ntmps7
  go_wp2_with fail
  refine (zz36 a0 a1 a2 a3 a5 a6 n0 n1 n2 n3 n5 n6 c0 c1 c2 c3 c5 c6 L jj fl sh iv0 cp w S.keys.1 S.reads.1 S.elems.1 hmi.1 hmk.1 hr2).mono ?_
  rintro e w1 ⟨b, rfl, hb, hw⟩
  obtain rfl := hw.symm
  cases b
  · clear hb
    go_wp2_with fail
    go_ret
    exact ⟨rfl, Below.refl _ _⟩
  obtain ⟨_, _, _, _, _, _, hL⟩ := hb rfl
  have HL := hid hL
  clear hb hL
  have hcs : 65536 < n0 ∨ (n0 ≤ 65536 ∧ 65536 < n1) ∨ (n0 ≤ 65536 ∧ n1 ≤ 65536 ∧ 65536 < n2) ∨ (n0 ≤ 65536 ∧ n1 ≤ 65536 ∧ n2 ≤ 65536 ∧ 65536 < n3) ∨ (n0 ≤ 65536 ∧ n1 ≤ 65536 ∧ n2 ≤ 65536 ∧ n3 ≤ 65536 ∧ 65536 < n5) ∨ (n0 ≤ 65536 ∧ n1 ≤ 65536 ∧ n2 ≤ 65536 ∧ n3 ≤ 65536 ∧ n5 ≤ 65536 ∧ 65536 < n6) ∨ (n0 ≤ 65536 ∧ n1 ≤ 65536 ∧ n2 ≤ 65536 ∧ n3 ≤ 65536 ∧ n5 ≤ 65536 ∧ n6 ≤ 65536) := by omega
  rcases hcs with g0 | ⟨g0, g1⟩ | ⟨g0, g1, g2⟩ | ⟨g0, g1, g2, g3⟩ | ⟨g0, g1, g2, g3, g5⟩ | ⟨g0, g1, g2, g3, g5, g6⟩ | ⟨g0, g1, g2, g3, g5, g6⟩
  iterate 6
    · go_wp2_with fail
      go_ret
      exact ⟨rfl, Below.refl _ _⟩
  go_wp2_with fail
  refine (listsBytes20 a3 n3 c3 L _ hr2 HL.out).mono ?_
  rintro e w1 ⟨t, rfl, ht0, ht1, hw⟩
  obtain rfl := hw.symm
  clear hr2
  go_wp2_with fail
  · go_ret
    exact ⟨rfl, Below.refl _ _⟩
  refine (scriptLen21 a0 a1 a2 a3 n0 n1 n2 n3 c0 c1 c2 c3 _ g0 g1 g2 g3).mono ?_
  rintro e w1 ⟨⟨n, rfl, l0, l1, l2, l3⟩, hw⟩
  obtain rfl := hw.symm
  by_cases hj0 : jj < 0
  · go_wp2_with fail
    go_ret
    exact ⟨rfl, Below.refl _ _⟩
  obtain ⟨j, rfl⟩ := Int.eq_ofNat_of_zero_le (Int.not_lt.1 hj0)
  by_cases hjn : j < n
  case neg =>
    have hjn' : (n : Int) ≤ (j : Int) := by omega
    go_wp2_with fail
    go_ret
    exact ⟨rfl, Below.refl _ _⟩
  obtain ⟨b1, o1, ha1, cr⟩ := S.reads.at (k := j) (by omega)
  cases hR : R j
  · rw [hR] at cr
    subst ha1
    have hj1 : (j : Int) < (n1 : Int) := by omega
    go_wp2_with fail
    go_ret
    exact ⟨rfl, Below.refl _ _⟩
  rw [hR] at cr
  have HR := hid hR
  subst ha1
  have hj1 : (j : Int) < (n1 : Int) := by omega
  clear hR
  go_wp2_with fail
  refine (clone22 a0 n0 c0 K _ S.keys (by omega)).mono ?_
  rintro e w1 ⟨a0', c0', rfl, k1, _, bl1⟩
  go_wp2_with fail
  refine (clone23 _ n1 c1 R _ (S.reads.later bl1) (by omega)).mono ?_
  rintro e w2 ⟨a1', c1', rfl, k2, _, bl2⟩
  go_wp2_with fail
  refine (clone24 a2 n2 c2 E _ ((S.elems.later bl1).later bl2) (by omega)).mono ?_
  rintro e w3 ⟨a2', c2', rfl, k3, _, bl3⟩
  go_wp2_with fail
  refine (clone25 a3 n3 c3 L Z _ (((S.later bl1).later bl2).later bl3).toLists (by omega) HL.out).mono ?_
  rintro e w4 ⟨a3', c3', rfl, ⟨V', k4, k4'⟩, _, bl4⟩
  go_wp2_with fail
  refine (clone24 a5 n5 c5 Mi _ ((((hmi.later bl1).later bl2).later bl3).later bl4) (by omega)).mono ?_
  rintro e w5 ⟨a5', c5', rfl, k5, _, bl5⟩
  go_wp2_with fail
  refine (clone26 a6 n6 c6 Ow _ (((((hmk.later bl1).later bl2).later bl3).later bl4).later bl5) (by omega)).mono ?_
  rintro e w6 ⟨a6', c6', rfl, k6, _, bl6⟩
  have S6 : Script w6 a0' a1' a2' a3' n0 n1 n2 n3 K R E V' L Z :=
    ⟨((((k1.later bl2).later bl3).later bl4).later bl5).later bl6, S.kb, (((k2.later bl3).later bl4).later bl5).later bl6, ((k3.later bl4).later bl5).later bl6, (k4.later bl5).later bl6, fun i hi => ((k4' i hi).later bl5).later bl6⟩
  have mi6 := k5.later bl6
  have bel6 : Below w.heap.size w w6 := by
    have s1 := bl1.size
    have s2 := bl2.size
    have s3 := bl3.size
    have s4 := bl4.size
    have s5 := bl5.size
    exact ((((bl1.trans (bl2.mono (by omega))).trans (bl3.mono (by omega))).trans (bl4.mono (by omega))).trans (bl5.mono (by omega))).trans (bl6.mono (by omega))
  clear k1 k2 k3 k4 k4' k5 bl1 bl2 bl3 bl4 bl5 bl6 S hmi hmk cr
  go_wp2_with fail
  refine (replay33 a0' a1' a2' a3' n0 n1 n2 n3 c0' c1' c2' c3' K R E V' L Z j w6 S6 (by omega) (by omega) (by omega) (by omega) (by omega)).mono ?_
  rintro e w7 ⟨vs, rfl, hown7, bl7⟩
  obtain ⟨bi, Sx, hf⟩ : ∃ bi Sx, fwd K R E (K j % 4) j = (bi, Sx) := ⟨_, _, rfl⟩
  rw [hf] at hown7 ⊢
  simp only at hown7 ⊢
  have hSx : Sx.length ≤ j := by have := fwd_len K R E (K j % 4) j; rw [hf] at this; exact this
  obtain ⟨va, vc, hvs, iS, iF⟩ := own_ints hown7 (by omega)
  rw [hvs]
  obtain ⟨ab, cb, hvb, hab6, hlb⟩ : ∃ ab cb, befV V' bi = .slice ab (befL L bi) cb ∧ Arr w6 ab (befL L bi) (fun t => .int .i64 (befZ Z bi t)) ∧ befL L bi ≤ 1048576 := by
    rcases hb : bi with _ | p
    · exact ⟨none, 0, rfl, ⟨by simp [befL], .inl rfl⟩, by simp [befL]⟩
    · have hp : p < j := by apply fwd_lt K R E (K j % 4) j; rw [hf, hb]
      obtain ⟨a, c, e, h, _⟩ := S6.inner p (by omega)
      exact ⟨a, c, e, h, HL.out p (by omega)⟩
  rw [hvb]
  have HVB := hid hvb
  have HVS := hid hvs
  have HF := hid hf
  clear hvb hvs hf hown7 iF
  generalize hlbe : befL L bi = lb at hab6 hlb ⊢
  have HLB := hid hlbe
  have S7 := S6.later bl7
  have mi7 := mi6.later bl7
  have ow7 := k6.later bl7
  have hab7 := hab6.later bl7
  have bel7 : Below w.heap.size w w7 := bel6.trans (bl7.mono bel6.size)
  clear hlbe S6 mi6 k6 hab6 bel6 bl7
  go_upto_region 21 with fail
  by_cases hm0 : lb + Sx.length = 0
  · have hm1 : (lb : Int) + (Sx.length : Int) = 0 := by omega
    go_wp2_with fail
    go_ret
    exact ⟨rfl, bel7⟩
  obtain ⟨m, hm⟩ : ∃ m, m = lb + Sx.length := ⟨_, rfl⟩
  have hm1 : (lb : Int) + (Sx.length : Int) = (m : Int) := by omega
  have hm2 : 0 < m := by omega
  have hm4 : ¬ ((m : Int) = 0) := by omega
  rw [hm1]
  have HM := hid hm
  have hm5 : m ≤ 1200000 := by omega
  clear hm0 hm hm1
  go_wp2_with fail
  refine (build27 a0' a1' a2' a3' n0 n1 n2 n3 c0' c1' c2' c3' K R E V' L Z n w7 S7 l0 l1 l2 l3 (by omega)).mono ?_
  rintro e w8 ⟨rfl, hbr⟩
  have bl8 := hbr.below
  obtain ⟨i0, hi, hz0, hz1, hz2⟩ := info_parts Try.info2
  have hab8 := hab7.later bl8
  have mi8 := mi7.later bl8
  have iS8 := iS.later bl8
  go_upto_region 24 with fail
  go_wp2_with (first
    | (at_make; refine wpList_make_own _ rfl _ _ 32 rfl w8.heap.size 2 i0 (.int .i64 0) 1 Try.underlying32 hi hz0 hz1 .i64 .i64 _ (lb + n5 + Sx.length) rfl rfl (by omega) (by rw [hz2]; omega) (by unfold maxLen; omega) (Nat.le_refl _) ?_)
    | fail)
  intro w9 hown9 hg9
  have b9 : Below w8.heap.size w8 w9 := ⟨hg9.os, hg9.tape, hg9.output, hg9.size, fun k hk => hg9.block k hk (by simp)⟩
  have hab9 := hab8.later b9
  go_wp2_with (first
    | (at_builtin; refine wpList_append_arr _ rfl (.tmp 168) (.tmp 169) 32 rfl w8.heap.size 2 i0 Try.underlying32 hi hz1 w8.heap.size (lb + n5 + Sx.length) [] 0 rfl rfl hown9 ab lb cb (befZ Z bi) rfl hab9 (by omega) ?_)
    | fail)
  intro w10 hown10 hg10
  have hown10 : w10.ownsRow w8.heap.size 2 1 (.slice (some ⟨w8.heap.size, 0, none⟩) lb (lb + n5 + Sx.length)) lb (iv (tab lb (befZ Z bi))) := by simpa using hown10
  try rw [Nat.zero_add]
  have b10 : Below w8.heap.size w8 w10 := b9.grown hg10 b9.size (fun k hk => by simp at hk; omega)
  have mi10 := mi8.later b10
  clear hown9 hg9 hab9 hg10 b9
  go_wp2_with (first
    | (at_builtin; refine wpList_append_arr _ rfl (.tmp 171) (.tmp 172) 32 rfl w8.heap.size 2 i0 Try.underlying32 hi hz1 w8.heap.size (lb + n5 + Sx.length) (tab lb (befZ Z bi)) lb (tab_length _ _) rfl hown10 a5' n5 c5' Mi rfl mi10 (by omega) ?_)
    | fail)
  intro w11 hown11 hg11
  have b11 : Below w8.heap.size w8 w11 := b10.grown hg11 b10.size (fun k hk => by simp at hk; omega)
  have iS11 := iS8.later b11
  clear hown10 hg11 b10
  go_wp2_with (first
    | (at_builtin; refine wpList_append_arr _ rfl (.tmp 174) (.tmp 175) 32 rfl w8.heap.size 2 i0 Try.underlying32 hi hz1 w8.heap.size (lb + n5 + Sx.length) (tab lb (befZ Z bi) ++ tab n5 Mi) (lb + n5) (by simp [tab]) rfl hown11 va Sx.length vc (fun i => Sx.getD i 0) rfl iS11 (by omega) ?_)
    | fail)
  intro w12 hown12 hg12
  have b12 : Below w8.heap.size w8 w12 := b11.grown hg12 b11.size (fun k hk => by simp at hk; omega)
  have hown12 : w12.ownsRow w8.heap.size 2 1 (.slice (some ⟨w8.heap.size, 0, none⟩) (lb + n5 + Sx.length) (lb + n5 + Sx.length)) (lb + n5 + Sx.length) (iv (tab lb (befZ Z bi) ++ (tab n5 Mi ++ Sx))) := by
    rw [tab_list'] at hown12
    exact hown12
  clear hown11 hg12 b11 iS11 iS8 mi8 mi10 hab8
  obtain ⟨lst, hlst⟩ : ∃ lst, lst = tab lb (befZ Z bi) ++ (tab n5 Mi ++ Sx) := ⟨_, rfl⟩
  rw [← hlst] at hown12
  obtain ⟨nl, hnl⟩ : ∃ nl, nl = lb + n5 + Sx.length := ⟨_, rfl⟩
  have hlen : lst.length = nl := by rw [hlst, hnl]; simp [tab]; omega
  rw [← hnl] at hown12 ⊢
  have hnl1 : m ≤ nl := by have := HM.out; omega
  have hnl2 : nl ≤ 2000000 := by omega
  have HNL := hid hnl
  have HLST := hid hlst
  have HLEN := hid hlen
  clear hnl hlst hlen
  obtain ⟨hsp, hsq⟩ := shift_pos fl m hm2
  have HSP := hid hsp
  have HSQ := hid hsq
  clear hsp hsq
  go_upto_if 181 with fail
  go_cut [33] from 180 (fun v wr => ∃ p : Nat, v = .int .i64 p ∧ p < m ∧ wr = w12)
  case first =>
    by_cases hneg : fl.tmod m < 0
    · obtain ⟨p, hp, hpm⟩ := HSP.out hneg
      have HP := hid hp
      clear hp
      go_wp2_with fail
      go_meet
      case rel => exact ⟨p, by rw [wrap_small _ p HP.out (by omega)], hpm, rfl⟩
    · obtain ⟨p, hp, hpm⟩ := HSQ.out hneg
      have HP := hid hp
      clear hp
      go_wp2_with fail
      go_meet
      case rel => exact ⟨p, by rw [HP.out], hpm, rfl⟩
  case rest =>
    obtain ⟨pz, rfl, hpz, rfl⟩ := hcut
    go_upto_if 185 with fail
    have hidx : pz < lb ∨ (lb ≤ pz ∧ pz - lb < Sx.length) := by have := HM.out; omega
    have HB := hid b12
    have CR := hid (fun x0 hx => changed_rel hown12 b12 HLST.out HNL.out HLEN.out hnl2 x0 hx)
    go_cut [34, 35, 36] from 185 (fun v34 v35 v36 wr => Unfit w8 lb (befZ Z bi) Sx v34 wr)
    case first =>
      as_aux_lemma =>
      have b12s := b12.size
      cases sh
      · rcases hidx with hp | ⟨hp, hp2⟩
        · have hpl : pz < nl := by omega
          have hcell : wc.cell? ⟨w8.heap.size, pz, none⟩ = some (.int .i64 (lst.getD pz 0)) := by
            rw [hown12.cellAt pz (by omega)]
            exact iv_getElem? lst pz (by rw [HLEN.out]; exact hpl)
          have hfr := hown12.frozenAt pz
          have hu := CR.out pz (.inl hp)
          generalize lst.getD pz 0 = x at hcell hu
          have HU := hid hu
          clear hu
          go_wp2_with fail
          go_meet
          case rel => exact HU.out
        · obtain ⟨p2, rfl⟩ : ∃ p2, pz = lb + p2 := ⟨pz - lb, by omega⟩
          have hp3 : p2 < Sx.length := by omega
          have hpl : lb + n5 + p2 < nl := by have := HNL.out; omega
          have hcell : wc.cell? ⟨w8.heap.size, lb + n5 + p2, none⟩ = some (.int .i64 (lst.getD (lb + n5 + p2) 0)) := by
            rw [hown12.cellAt (lb + n5 + p2) (by omega)]
            exact iv_getElem? lst _ (by rw [HLEN.out]; exact hpl)
          have hfr := hown12.frozenAt (lb + n5 + p2)
          have hu := CR.out (lb + n5 + p2) (.inr ⟨by omega, by omega⟩)
          generalize lst.getD (lb + n5 + p2) 0 = x at hcell hu
          have HU := hid hu
          clear hu hp hp2
          go_wp2_with fail
          go_meet
          case rel => exact HU.out
      · have hmk := run_make_row' (P := Try.prog) 32 2 (.int .i64 0) _ Try.underlying32 Try.info2 rfl .i64 .i64 pz (by omega) (by omega)
        go_wp2_with fail
        clear hmk
        go_loopw [35] (fun i wr => ∃ k : Nat, k ≤ pz ∧ i = .int .i64 k ∧ wr.rowIs wc.heap.size 2 pz (fun x => if x < k then .int .i64 (lst.getD x 0) else .int .i64 0) ∧ Below wc.heap.size wc wr) (fun i _ => pz - (intOf i).toNat)
        case atStart => exact ⟨0, Nat.zero_le _, rfl, (World.rowIs_made wc _ pz 2).congr (fun i hi => by simp), (Below.refl _ _).alloc (Nat.le_refl _) _⟩
        case round =>
          obtain ⟨k, hk, rfl, hrow, hbel⟩ := hrel
          by_cases hlt : k < pz
          · have hkn : k < nl := by omega
            have hcell : wc.cell? ⟨w8.heap.size, k, none⟩ = some (.int .i64 (lst.getD k 0)) := by
              rw [hown12.cellAt k (by omega)]
              exact iv_getElem? lst k (by rw [HLEN.out]; exact hkn)
            have hcell := cell_later hbel hcell
            have hfr := hrow.frozen k
            have hold := hrow.cell hlt
            have hnew := hrow.set k (.int .i64 (lst.getD k 0))
            have hbel' := hbel.setCell (p := ⟨wc.heap.size, k, none⟩) (Nat.le_refl _) (.int .i64 (lst.getD k 0))
            have hnew' := hid (hnew.congr (fun i hi => step_if i k (fun x => .int .i64 (lst.getD x 0)) _))
            clear hrow hnew
            generalize lst.getD k 0 = x at hcell hnew' hbel'
            go_wp2_with fail
            go_roundw
            case rel => exact ⟨k + 1, by omega, by go_num, hnew'.out, hbel'⟩
            case measure => simp [intOf]; omega
          · go_wp2_with fail
            go_meet
            case rel =>
              obtain rfl : k = pz := by omega
              exact ⟨wc.heap.size, k, k, fun x => lst.getD x 0, rfl, Nat.le_refl _, by omega, ⟨_, _, rfl, Arr.ofRow (hrow.congr fun i hi => by simp [hi]) (by omega), AddrFrom.some b12s⟩, b12.trans (hbel.mono b12s), hid (short_unfit _ _ _ _ _ (by have := HM.out; omega))⟩
    case rest =>
      obtain ⟨bl, ll, cl, zl, rfl, hlc, hll, hvl, b8c, HUF⟩ := hcut
      obtain ⟨hM13, bel713, cst, fst⟩ := mops_store S7 l3 hbr b8c j hjn (.slice (some ⟨bl, 0, none⟩) ll cl) ll zl hvl
      have hmc : ∃ v, World.cell? _ ⟨w7.heap.size, j * 4 + 3, none⟩ = some v := ⟨_, cst⟩
      have hjn' : (j : Int) < (n : Int) := by omega
      have hw78 := hbr.mops.lt
      have vl13 := hvl.setCell (p := ⟨w7.heap.size, j * 4 + 3, none⟩) hw78 (.slice (some ⟨bl, 0, none⟩) ll cl)
      have S13 := S7.later bel713
      have ow13 := ow7.later bel713
      have hab13 := hab7.later bel713
      have iS13 := iS.later bel713
      have bel13 : Below w.heap.size w _ := bel7.trans (bel713.mono bel7.size)
      clear cst hown12 HB CR HLST HNL HLEN b12 hbr bl8 hvl b8c iS S7 mi7 ow7 hab7 bel7 hown10 bel713 hidx hpz
      obtain ⟨vold, cst⟩ := hmc
      go_wp2_with fail
      generalize hW13 : wc.setCell ⟨w7.heap.size, j * 4 + 3, none⟩ (.slice (some ⟨bl, 0, none⟩) ll cl) = w13 at hM13 vl13 S13 ow13 hab13 iS13 bel13 ⊢
      clear hW13 cst fst
      refine (newTxn28 iv0 cp _ n n w13).mono ?_
      rintro e w14 ⟨rfl, b14⟩
      go_wp2_with fail
      have b15 : Below w13.heap.size w13 (w14.alloc (.cells #[.int .i64 iv0, .int .i64 cp, .int .i64 0, .string ⟨#[]⟩, .slice (some ⟨w7.heap.size, 0, none⟩) n n] 51)) := b14.alloc b14.size _
      generalize w14.alloc (.cells #[.int .i64 iv0, .int .i64 cp, .int .i64 0, .string ⟨#[]⟩, .slice (some ⟨w7.heap.size, 0, none⟩) n n] 51) = w15 at b15 ⊢
      obtain ⟨q1, q2, q3⟩ := with_bef (V := V') (L := L) (Z := Z) HF.out (.slice (some ⟨bl, 0, none⟩) ll cl) ll zl
      refine (zzInternal29 iv0 cp 0 ⟨#[]⟩ w7.heap.size (w7.heap.size + 1) n n n K R E _ _ _ j a6' n6 c6' Ow w15 bl ll cl (hM13.later b15) (ow13.later b15) hjn (by omega) HR.out (by simp [withV]) hlc (by simp [withL]) (by omega) (by omega) bi Sx HF.out ⟨ab, cb, by rw [q1, q2]; exact HVB.out⟩).mono ?_
      rw [q1, q2, q3, HVB.out, HLB.out]
      simp only [withV, withZ, if_true]
      rintro e w16 ⟨b16, h16⟩
      rcases h16 with ⟨rfl, hz16⟩ | ⟨vs', vo', rfl, hA, hS', hfin⟩
      · exfalso
        have hmm := HM.out
        rcases hz16 with ⟨z1, z2, _⟩ | ⟨z1, _⟩
        · omega
        · exact HUF.out z1
      obtain rfl : vo' = .slice none 0 0 := by
        rcases hfin with ⟨h1, _⟩ | ⟨_, h1⟩
        · exact absurd h1 HUF.out
        · exact h1
      obtain ⟨sa, sc, hvs', hSA', _⟩ := hS'
      rw [hvs']
      unfold intStr
      clear hvs' hfin hA
      obtain ⟨b0, o0, hb0, ck⟩ := S13.keys.at (k := j) (by omega)
      have b1316 : Below w13.heap.size w13 w16 := b15.trans (b16.mono b15.size)
      have ck := fun o => cell_alloc (cell_later b1316 ck) o
      subst hb0
      have hj0' : (j : Int) < (n0 : Int) := by omega
      have hKj := S13.kb j
      have qn : ∀ (w : World) (a : Option Addr) (n c n' c' : Nat), (binOp .eql 54 (.slice a n c) (.slice none n' c')).run Try.prog w = .ok (.bool a.isNone) w := fun w a n c n' c' => Lib.run_eql_slice_nil w _ _ a n c n' c' Try.underlying54
      have ck0 : w16.cell? ⟨b0, o0 + j, none⟩ = some (.int .u8 (K j)) := cell_later b1316 (S13.keys.cell (k := j) (by omega))
      have vl16 := (vl13.later b1316)
      obtain ⟨lxa, lxc, hvl', hLA, _⟩ := vl16
      simp only [Value.slice.injEq, true_and] at hvl'
      obtain ⟨rfl, rfl⟩ := hvl'
      have E1 := hid (fun (W : World) (hW : Below w16.heap.size w16 W) => eq30_true _ _ ll cl cl _ _ W (hLA.later hW) (hLA.later hW) (fun _ _ => rfl))
      have E2 := hid (fun (W : World) (hW : Below w16.heap.size w16 W) => eq30_true _ _ lb cb cb _ _ W ((hab13.later b1316).later hW) ((hab13.later b1316).later hW) (fun _ _ => rfl))
      have E3 := hid (fun (W : World) (hW : Below w16.heap.size w16 W) => eq30_true _ _ Sx.length sc vc _ _ W (hSA'.later hW) ((iS13.later b1316).later hW) (fun _ _ => rfl))
      go_wp2_with fail
      simp only [List.append_eq, List.cons_append, List.nil_append]
      obtain ⟨wN, hwN⟩ : ∃ wN, wN = w16.alloc (.cells #[.string ⟨#[105, 110, 116, 101, 114, 110, 97, 108]⟩, .int .i64 iv0, .int .i64 cp, .string (keyStr (K j)), .int .i64 0, .int .i64 0, .int .i64 0, .int .i64 (j : Int), .slice (some ⟨bl, 0, none⟩) ll cl, .slice ab lb cb, .slice sa Sx.length sc, .slice none 0 0, .slice none 0 0] 56) := ⟨_, rfl⟩
      have hS0 : wN.cell? ⟨w16.heap.size, 0, none⟩ = some (.string ⟨#[105, 110, 116, 101, 114, 110, 97, 108]⟩) ∧ wN.cell? ⟨w16.heap.size, 1, none⟩ = some (.int .i64 iv0) ∧ wN.cell? ⟨w16.heap.size, 2, none⟩ = some (.int .i64 cp) ∧ wN.cell? ⟨w16.heap.size, 3, none⟩ = some (.string (keyStr (K j))) ∧ wN.cell? ⟨w16.heap.size, 4, none⟩ = some (.int .i64 0) ∧ wN.cell? ⟨w16.heap.size, 5, none⟩ = some (.int .i64 0) ∧ wN.cell? ⟨w16.heap.size, 6, none⟩ = some (.int .i64 0) ∧ wN.cell? ⟨w16.heap.size, 7, none⟩ = some (.int .i64 (j : Int)) ∧ wN.cell? ⟨w16.heap.size, 8, none⟩ = some (.slice (some ⟨bl, 0, none⟩) ll cl) ∧ wN.cell? ⟨w16.heap.size, 9, none⟩ = some (.slice ab lb cb) ∧ wN.cell? ⟨w16.heap.size, 10, none⟩ = some (.slice sa Sx.length sc) ∧ wN.cell? ⟨w16.heap.size, 11, none⟩ = some (.slice none 0 0) ∧ wN.cell? ⟨w16.heap.size, 12, none⟩ = some (.slice none 0 0) ∧ wN.cell? ⟨b0, o0 + j, none⟩ = some (.int .u8 (K j)) ∧ Below w16.heap.size w16 wN := by
        rw [hwN]
        exact ⟨by simp, by simp, by simp, by simp, by simp, by simp, by simp, by simp, by simp, by simp, by simp, by simp, by simp, cell_alloc ck0 _, (Below.refl _ _).alloc (Nat.le_refl _) _⟩
      rw [← hwN]
      have hS1 := regS_alloc hS0 (Nat.le_refl _) (.cells #[.int .u8 107, .int .u8 (48 + K j % 4)] 5)
      have H0 := hid hS0
      have H1 := hid hS1
      have s13 := bel13.size
      have s15 := b15.size
      have s16 := b16.size
      have bel16 : Below w.heap.size w w16 := (bel13.trans (b15.mono s13)).trans (b16.mono (by omega))
      have HB := hid bel16
      clear hwN ck ck0 hS0 hS1 S13 hM13 b15 b1316 b16 b14 bel13 bel16 iS13 vl13 ow13 hab13 hSA' hLA HVB HVS HLB HF HL hi hz0 hz1 hz2 q1 q2 q3 hlb hSx hll hlc hj1 hjn' g0 g1 g2 g3 g5 g6 ht0 ht1 l0 l1 l2 l3 hw78 s13 s15 s16 HSP HSQ hnl1 hnl2 hm2 hm4 hm5 HM HUF
      as_aux_lemma =>
        go_region_held3 (fun w' => w'.cell? ⟨w16.heap.size, 0, none⟩ = some (.string ⟨#[105, 110, 116, 101, 114, 110, 97, 108]⟩) ∧ w'.cell? ⟨w16.heap.size, 1, none⟩ = some (.int .i64 iv0) ∧ w'.cell? ⟨w16.heap.size, 2, none⟩ = some (.int .i64 cp) ∧ w'.cell? ⟨w16.heap.size, 3, none⟩ = some (.string (keyStr (K j))) ∧ w'.cell? ⟨w16.heap.size, 4, none⟩ = some (.int .i64 0) ∧ w'.cell? ⟨w16.heap.size, 5, none⟩ = some (.int .i64 0) ∧ w'.cell? ⟨w16.heap.size, 6, none⟩ = some (.int .i64 0) ∧ w'.cell? ⟨w16.heap.size, 7, none⟩ = some (.int .i64 (j : Int)) ∧ w'.cell? ⟨w16.heap.size, 8, none⟩ = some (.slice (some ⟨bl, 0, none⟩) ll cl) ∧ w'.cell? ⟨w16.heap.size, 9, none⟩ = some (.slice ab lb cb) ∧ w'.cell? ⟨w16.heap.size, 10, none⟩ = some (.slice sa Sx.length sc) ∧ w'.cell? ⟨w16.heap.size, 11, none⟩ = some (.slice none 0 0) ∧ w'.cell? ⟨w16.heap.size, 12, none⟩ = some (.slice none 0 0) ∧ w'.cell? ⟨b0, o0 + j, none⟩ = some (.int .u8 (K j)) ∧ Below w16.heap.size w16 w') (first | exact regS_same H0.out rfl rfl rfl rfl | exact regS_same H1.out rfl rfl rfl rfl) (first | (go_at_call 35; refine (keyName35 _ (by omega) (by omega) _).mono ?_; rintro e w' ⟨rfl, rfl⟩) | (go_at_call_of 30 (Value.slice (some ⟨bl, 0, none⟩) ll cl); refine (E1.out _ (regS_below (by assumption))).mono ?_; rintro e w' ⟨rfl, m, rfl⟩) | (go_at_call_of 30 (Value.slice ab lb cb); refine (E2.out _ (regS_below (by assumption))).mono ?_; rintro e w' ⟨rfl, m, rfl⟩) | (go_at_call_of 30 (Value.slice sa Sx.length sc); refine (E3.out _ (regS_below (by assumption))).mono ?_; rintro e w' ⟨rfl, m, rfl⟩))
        go_wp2_with fail
        go_ret
        exact ⟨rfl, HB.out.trans (belowN ((regS_below H1.out).mono HB.out.size) _)⟩
end Go.Proofs.Qxb6600044a
