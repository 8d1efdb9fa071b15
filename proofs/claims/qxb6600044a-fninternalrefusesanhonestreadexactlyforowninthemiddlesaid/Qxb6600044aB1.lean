import Derived.Test.Qxb6600044aB0
namespace Go.Proofs.Qxb6600044a
open Go.RowKit
set_option linter.unusedVariables false

set_option maxRecDepth 100000 in
set_option maxHeartbeats 4000000 in
theorem law6 (a0 a1 a2 a3 a5 a6 : Option Addr) (n0 n1 n2 n3 n5 n6 c0 c1 c2 c3 c5 c6 : Nat) (K : Nat → Int) (R : Nat → Bool) (E : Nat → Int) (V : Nat → Value) (L : Nat → Nat) (Z : Nat → Nat → Int) (Mi : Nat → Int) (Mk : Nat → Bool) (jj : Int) (w : World)
    (S : Script w a0 a1 a2 a3 n0 n1 n2 n3 K R E V L Z) (hmi : Arr w a5 n5 fun i => .int .i64 (Mi i)) (hmk : Arr w a6 n6 fun i => .bool (Mk i)) :
    Calls Try.prog 6 #[.slice a0 n0 c0, .slice a1 n1 c1, .slice a2 n2 c2, .slice a3 n3 c3, .int .i64 jj, .slice a5 n5 c5, .slice a6 n6 c6] w (LawPost w) := by
  have hr2 := S.rows2
  go_enter Try.func6, Try.ntmps6
  go_wp2_with fail
  refine (zz32 a0 a1 a2 a3 a5 a6 n0 n1 n2 n3 n5 n6 c0 c1 c2 c3 c5 c6 L jj w S.keys.1 S.reads.1 S.elems.1 hmi.1 hmk.1 hr2).mono ?_
  rintro e w1 ⟨b, rfl, hb, hw⟩
  obtain rfl := hw.symm
  cases b
  · clear hb
    go_wp2_with fail
    go_ret
    exact ⟨rfl, Below.refl _ _⟩
  obtain ⟨_, _, _, _, _, _, hL⟩ := hb rfl
  have HL := hid hL
  clear hb hL
  have hcs : 65536 < n0 ∨ (n0 ≤ 65536 ∧ 65536 < n1) ∨ (n0 ≤ 65536 ∧ n1 ≤ 65536 ∧ 65536 < n2) ∨ (n0 ≤ 65536 ∧ n1 ≤ 65536 ∧ n2 ≤ 65536 ∧ 65536 < n3) ∨ (n0 ≤ 65536 ∧ n1 ≤ 65536 ∧ n2 ≤ 65536 ∧ n3 ≤ 65536 ∧ 65536 < n5) ∨ (n0 ≤ 65536 ∧ n1 ≤ 65536 ∧ n2 ≤ 65536 ∧ n3 ≤ 65536 ∧ n5 ≤ 65536 ∧ 65536 < n6) ∨ (n0 ≤ 65536 ∧ n1 ≤ 65536 ∧ n2 ≤ 65536 ∧ n3 ≤ 65536 ∧ n5 ≤ 65536 ∧ n6 ≤ 65536) := by omega
  rcases hcs with g0 | ⟨g0, g1⟩ | ⟨g0, g1, g2⟩ | ⟨g0, g1, g2, g3⟩ | ⟨g0, g1, g2, g3, g5⟩ | ⟨g0, g1, g2, g3, g5, g6⟩ | ⟨g0, g1, g2, g3, g5, g6⟩
  iterate 6
    · go_wp2_with fail
      go_ret
      exact ⟨rfl, Below.refl _ _⟩
  go_wp2_with fail
  refine (listsBytes20 a3 n3 c3 L _ hr2 HL.out).mono ?_
  rintro e w1 ⟨t, rfl, ht0, ht1, hw⟩
  obtain rfl := hw.symm
  clear hr2
  go_wp2_with fail
  · go_ret
    exact ⟨rfl, Below.refl _ _⟩
  refine (scriptLen21 a0 a1 a2 a3 n0 n1 n2 n3 c0 c1 c2 c3 _ g0 g1 g2 g3).mono ?_
  rintro e w1 ⟨⟨n, rfl, l0, l1, l2, l3⟩, hw⟩
  obtain rfl := hw.symm
  by_cases hj0 : jj < 0
  · go_wp2_with fail
    go_ret
    exact ⟨rfl, Below.refl _ _⟩
  obtain ⟨j, rfl⟩ := Int.eq_ofNat_of_zero_le (Int.not_lt.1 hj0)
  by_cases hjn : j < n
  case neg =>
    have hjn' : (n : Int) ≤ (j : Int) := by omega
    go_wp2_with fail
    go_ret
    exact ⟨rfl, Below.refl _ _⟩
  obtain ⟨b1, o1, ha1, cr⟩ := S.reads.at (k := j) (by omega)
  cases hR : R j
  · rw [hR] at cr
    subst ha1
    have hj1 : (j : Int) < (n1 : Int) := by omega
    go_wp2_with fail
    go_ret
    exact ⟨rfl, Below.refl _ _⟩
  rw [hR] at cr
  have HR := hid hR
  subst ha1
  have hj1 : (j : Int) < (n1 : Int) := by omega
  clear hR
  go_wp2_with fail
  refine (clone22 a0 n0 c0 K _ S.keys (by omega)).mono ?_
  rintro e w1 ⟨a0', c0', rfl, k1, _, bl1⟩
  go_wp2_with fail
  refine (clone23 _ n1 c1 R _ (S.reads.later bl1) (by omega)).mono ?_
  rintro e w2 ⟨a1', c1', rfl, k2, _, bl2⟩
  go_wp2_with fail
  refine (clone24 a2 n2 c2 E _ ((S.elems.later bl1).later bl2) (by omega)).mono ?_
  rintro e w3 ⟨a2', c2', rfl, k3, _, bl3⟩
  go_wp2_with fail
  refine (clone25 a3 n3 c3 L Z _ (((S.later bl1).later bl2).later bl3).toLists (by omega) HL.out).mono ?_
  rintro e w4 ⟨a3', c3', rfl, ⟨V', k4, k4'⟩, _, bl4⟩
  go_wp2_with fail
  refine (clone24 a5 n5 c5 Mi _ ((((hmi.later bl1).later bl2).later bl3).later bl4) (by omega)).mono ?_
  rintro e w5 ⟨a5', c5', rfl, k5, _, bl5⟩
  go_wp2_with fail
  refine (clone23 a6 n6 c6 Mk _ (((((hmk.later bl1).later bl2).later bl3).later bl4).later bl5) (by omega)).mono ?_
  rintro e w6 ⟨a6', c6', rfl, k6, _, bl6⟩
  have S6 : Script w6 a0' a1' a2' a3' n0 n1 n2 n3 K R E V' L Z :=
    ⟨((((k1.later bl2).later bl3).later bl4).later bl5).later bl6, S.kb, (((k2.later bl3).later bl4).later bl5).later bl6, ((k3.later bl4).later bl5).later bl6, (k4.later bl5).later bl6, fun i hi => ((k4' i hi).later bl5).later bl6⟩
  have mi6 := k5.later bl6
  have bel6 : Below w.heap.size w w6 := by
    have s1 := bl1.size
    have s2 := bl2.size
    have s3 := bl3.size
    have s4 := bl4.size
    have s5 := bl5.size
    exact ((((bl1.trans (bl2.mono (by omega))).trans (bl3.mono (by omega))).trans (bl4.mono (by omega))).trans (bl5.mono (by omega))).trans (bl6.mono (by omega))
  clear k1 k2 k3 k4 k4' k5 bl1 bl2 bl3 bl4 bl5 bl6 S hmi hmk cr
  go_wp2_with fail
  refine (build27 a0' a1' a2' a3' n0 n1 n2 n3 c0' c1' c2' c3' K R E V' L Z n w6 S6 l0 l1 l2 l3 (by omega)).mono ?_
  rintro e w7 ⟨rfl, hbr⟩
  have bl7 := hbr.below
  go_wp2_with fail
  refine (replay33 a0' a1' a2' a3' n0 n1 n2 n3 c0' c1' c2' c3' K R E V' L Z j w7 (S6.later bl7) (by omega) (by omega) (by omega) (by omega) (by omega)).mono ?_
  rintro e w8 ⟨vs, rfl, hown8, bl8⟩
  obtain ⟨bi, Sx, hf⟩ : ∃ bi Sx, fwd K R E (K j % 4) j = (bi, Sx) := ⟨_, _, rfl⟩
  rw [hf] at hown8 ⊢
  simp only at hown8 ⊢
  have hSx : Sx.length ≤ j := by have := fwd_len K R E (K j % 4) j; rw [hf] at this; exact this
  obtain ⟨va, vc, hvs, iS, iF⟩ := own_ints hown8 (by omega)
  rw [hvs]
  have hbel8 : Below w6.heap.size w6 w8 := bl7.trans (bl8.mono bl7.size)
  obtain ⟨ab, cb, hvb, hab6, hlb⟩ : ∃ ab cb, befV V' bi = .slice ab (befL L bi) cb ∧ Arr w6 ab (befL L bi) (fun t => .int .i64 (befZ Z bi t)) ∧ befL L bi ≤ 1048576 := by
    rcases hb : bi with _ | p
    · exact ⟨none, 0, rfl, ⟨by simp [befL], .inl rfl⟩, by simp [befL]⟩
    · have hp : p < j := by apply fwd_lt K R E (K j % 4) j; rw [hf, hb]
      obtain ⟨a, c, e, h, _⟩ := S6.inner p (by omega)
      exact ⟨a, c, e, h, HL.out p (by omega)⟩
  rw [hvb]
  have HVB := hid hvb
  have HVS := hid hvs
  have HF := hid hf
  clear hvb hvs hf
  generalize hlbe : befL L bi = lb at hab6 hlb ⊢
  have hab := hab6.later hbel8
  have HLB := hid hlbe
  clear hlbe
  obtain ⟨i0, hi, hz0, hz1, hz2⟩ := info_parts Try.info2
  have mi8 := mi6.later hbel8
  go_upto_region 20 with fail
  go_wp2_with (first
    | (at_make; refine wpList_make_own _ rfl _ _ 32 rfl w8.heap.size 2 i0 (.int .i64 0) 1 Try.underlying32 hi hz0 hz1 .i64 .i64 _ (lb + n5 + Sx.length) rfl rfl (by omega) (by rw [hz2]; omega) (by unfold maxLen; omega) (Nat.le_refl _) ?_)
    | fail)
  intro w9 hown9 hg9
  have b9 : Below w8.heap.size w8 w9 := ⟨hg9.os, hg9.tape, hg9.output, hg9.size, fun k hk => hg9.block k hk (by simp)⟩
  have hab9 := hab.later b9
  go_wp2_with (first
    | (at_builtin; refine wpList_append_arr _ rfl (.tmp 146) (.tmp 147) 32 rfl w8.heap.size 2 i0 Try.underlying32 hi hz1 w8.heap.size (lb + n5 + Sx.length) [] 0 rfl rfl hown9 ab lb cb (befZ Z bi) rfl hab9 (by omega) ?_)
    | fail)
  intro w10 hown10 hg10
  have hown10 : w10.ownsRow w8.heap.size 2 1 (.slice (some ⟨w8.heap.size, 0, none⟩) lb (lb + n5 + Sx.length)) lb (iv (tab lb (befZ Z bi))) := by simpa using hown10
  try rw [Nat.zero_add]
  have b10 : Below w8.heap.size w8 w10 := b9.grown hg10 b9.size (fun k hk => by simp at hk; omega)
  have mi10 := mi8.later b10
  clear hown9 hg9 hab9 hg10 b9
  go_wp2_with (first
    | (at_builtin; refine wpList_append_arr _ rfl (.tmp 149) (.tmp 150) 32 rfl w8.heap.size 2 i0 Try.underlying32 hi hz1 w8.heap.size (lb + n5 + Sx.length) (tab lb (befZ Z bi)) lb (tab_length _ _) rfl hown10 a5' n5 c5' Mi rfl mi10 (by omega) ?_)
    | fail)
  intro w11 hown11 hg11
  have b11 : Below w8.heap.size w8 w11 := b10.grown hg11 b10.size (fun k hk => by simp at hk; omega)
  have iS11 := iS.later b11
  clear hown10 hg11 b10
  go_wp2_with (first
    | (at_builtin; refine wpList_append_arr _ rfl (.tmp 152) (.tmp 153) 32 rfl w8.heap.size 2 i0 Try.underlying32 hi hz1 w8.heap.size (lb + n5 + Sx.length) (tab lb (befZ Z bi) ++ tab n5 Mi) (lb + n5) (by simp [tab]) rfl hown11 va Sx.length vc (fun i => Sx.getD i 0) rfl iS11 (by omega) ?_)
    | fail)
  intro w12 hown12 hg12
  have b12 : Below w8.heap.size w8 w12 := b11.grown hg12 b11.size (fun k hk => by simp at hk; omega)
  have hown12 : w12.ownsRow w8.heap.size 2 1 (.slice (some ⟨w8.heap.size, 0, none⟩) (lb + n5 + Sx.length) (lb + n5 + Sx.length)) (lb + n5 + Sx.length) (iv (tab lb (befZ Z bi) ++ (tab n5 Mi ++ Sx))) := by
    rw [tab_list'] at hown12
    exact hown12
  clear hown11 hg12 b11 iS11
  obtain ⟨lst, hlst⟩ : ∃ lst, lst = tab lb (befZ Z bi) ++ (tab n5 Mi ++ Sx) := ⟨_, rfl⟩
  rw [← hlst] at hown12
  obtain ⟨ll, hll⟩ : ∃ ll, ll = lb + n5 + Sx.length := ⟨_, rfl⟩
  have hlen : lst.length = ll := by rw [hlst, hll]; simp [tab]; omega
  rw [← hll] at hown12 ⊢
  have hll1 : lb ≤ ll := by omega
  have hll2 : ll ≤ 2000000 := by omega
  have HLL := hid hll
  have HLST := hid hlst
  have HLEN := hid hlen
  have b712 : Below w7.heap.size w7 w12 := bl8.trans (b12.mono bl8.size)
  have hvl : Ints w7.heap.size w12 (.slice (some ⟨w8.heap.size, 0, none⟩) ll ll) ll (fun i => lst.getD i 0) := by
    exact (own_list hown12 hlen (by omega)).mono bl8.size
  obtain ⟨hM13, bel613, cst, fst⟩ := mops_store S6 l3 hbr b712 j hjn (.slice (some ⟨w8.heap.size, 0, none⟩) ll ll) ll (fun i => lst.getD i 0) hvl
  have hmc : ∃ v, w12.cell? ⟨w6.heap.size, j * 4 + 3, none⟩ = some v := ⟨_, cst⟩
  have hjn' : (j : Int) < (n : Int) := by omega
  have hw67 := hbr.mops.lt
  have iS13 := (iS.later b12).setCell (p := ⟨w6.heap.size, j * 4 + 3, none⟩) (iF.mono hw67) (.slice (some ⟨w8.heap.size, 0, none⟩) ll ll)
  have vl13 := hvl.setCell (p := ⟨w6.heap.size, j * 4 + 3, none⟩) hw67 (.slice (some ⟨w8.heap.size, 0, none⟩) ll ll)
  clear hll hlst hlen hown12 cst
  obtain ⟨vold, cst⟩ := hmc
  go_upto_region 25 with fail
  generalize hW13 : w12.setCell ⟨w6.heap.size, j * 4 + 3, none⟩ (.slice (some ⟨w8.heap.size, 0, none⟩) ll ll) = w13 at hM13 bel613 iS13 vl13 ⊢
  have S13 := S6.later bel613
  have mk13 := k6.later bel613
  have mi13 := mi6.later bel613
  have hab13 := hab6.later bel613
  have bel13 : Below w.heap.size w w13 := bel6.trans (bel613.mono bel6.size)
  clear hW13 cst fst hvl b712 b12 hbr S6 k6 mi6 hab6 hab bel613 bl7 bl8 hbel8 iS iF mi8 hown8 hown10 mi10 bel6
  obtain ⟨i1, hi1, hy0, hy1, hy2⟩ := info_parts Try.info3
  go_upto_block 0 with fail
  go_cut [23, 24, 25] (fun v23 v24 v25 wr => ∃ k : Nat, k ≤ ll ∧ k ≤ n6 ∧ wr.ownsRow w13.heap.size 3 1 v23 (owL Mk k).length (iv (owL Mk k)) ∧ wr.ownsRow w13.heap.size 2 1 v24 (woL Mk Mi lb n5 k).length (iv (woL Mk Mi lb n5 k)) ∧ Below w13.heap.size w13 wr)
  case first =>
    as_aux_lemma =>
    go_wp2_with fail
    go_loopw [23, 24, 25] (fun v23 v24 v25 wr => ∃ k : Nat, k ≤ ll ∧ k ≤ n6 ∧ v25 = .int .i64 k ∧ wr.ownsRow w13.heap.size 3 1 v23 (owL Mk k).length (iv (owL Mk k)) ∧ wr.ownsRow w13.heap.size 2 1 v24 (woL Mk Mi lb n5 k).length (iv (woL Mk Mi lb n5 k)) ∧ Below w13.heap.size w13 wr) (fun _ _ i _ => ll - (intOf i).toNat)
    case atStart => exact ⟨0, Nat.zero_le _, Nat.zero_le _, rfl, World.ownsRow_nil _ _ _ _, World.ownsRow_nil _ _ _ _, Below.refl _ _⟩
    case round =>
      obtain ⟨k, hk1, hk2, rfl, ho3, ho2, hbw⟩ := hrel
      by_cases hl1 : k < ll
      · by_cases hl2 : k < n6
        · obtain ⟨b6, o6, rfl, cm⟩ := mk13.at hl2
          have cm := cell_later hbw cm
          have hol := owL_len Mk k
          have hwl := woL_len Mk Mi lb n5 k
          cases hM : Mk k
          · rw [hM] at cm
            have e1 : owL Mk (k + 1) = owL Mk k := by simp [owL, hM]
            have e2 : woL Mk Mi lb n5 (k + 1) = woL Mk Mi lb n5 k := by simp [woL, hM]
            have E1 := hid e1
            have E2 := hid e2
            clear e1 e2 hM
            go_wp2_with fail
            go_roundw
            case rel => exact ⟨k + 1, by omega, by omega, by go_num, by rw [E1.out]; exact ho3, by rw [E2.out]; exact ho2, hbw⟩
            case measure => simp [intOf]; omega
          · rw [hM] at cm
            have e1 : owL Mk (k + 1) = owL Mk k ++ [(k : Int)] := by simp [owL, hM]
            have E1 := hid e1
            have HM := hid hM
            clear e1 hM
            go_wp2_with (first
              | (at_builtin; refine wpList_append_own _ rfl (.tmp 177) (.tmp 179) 34 rfl w13.heap.size 3 i1 (.int .i64 0) 1 8 Try.underlying34 hi1 hy0 hy1 hy2 rfl (by decide) _ _ _ rfl (ho3.alloc _) ⟨wr.heap.size, 0, none⟩ 1 1 [.int .i64 (k : Int)] rfl rfl ?c1 ?c2 ?c3 ?c4 ?c5 ?_)
              | fail)
            case c1 => exact cell_one_new _ _ _
            case c2 => intro u hu; simp at hu; subst hu; rfl
            case c3 => unfold maxLen; omega
            case c4 => omega
            case c5 => have := hbw.size; simp; omega
            intro v' w2 hown' hgrow _
            have hkept := (ho2.alloc _).kept hgrow (own_ne ho2 ho3 (by decide))
            obtain ⟨ho3', hbw1⟩ := own_app hbw (Nat.le_refl _) ho3 hown' hgrow
            clear hown' hgrow ho3 ho2 hbw cm
            by_cases hin : lb ≤ k ∧ k < lb + n5
            · obtain ⟨hin1, hin2⟩ := hin
              have e2 : woL Mk Mi lb n5 (k + 1) = woL Mk Mi lb n5 k ++ [Mi (k - lb)] := by simp [woL, HM.out, hin1, hin2]
              have E2 := hid e2
              clear e2
              obtain ⟨b5, o5, rfl, c5⟩ := mi13.at (k := k - lb) (by omega)
              have c5 := cell_later hbw1 c5
              go_wp2_with (first
                | (at_builtin; refine wpList_append_own _ rfl (.tmp 191) (.tmp 198) 32 rfl w13.heap.size 2 i0 (.int .i64 0) 1 8 Try.underlying32 hi hz0 hz1 hz2 rfl (by decide) _ _ _ rfl (hkept.alloc _) ⟨w2.heap.size, 0, none⟩ 1 1 [.int .i64 (Mi (k - lb))] rfl rfl ?d1 ?d2 ?d3 ?d4 ?d5 ?_)
                | fail)
              case d1 => exact cell_one_new _ _ _
              case d2 => intro u hu; simp at hu; subst hu; rfl
              case d3 => unfold maxLen; omega
              case d4 => omega
              case d5 => have := hbw1.size; simp; omega
              intro v2 w3' hown' hgrow _
              have hkept3 := (ho3'.alloc _).kept hgrow (own_ne ho3' hkept (by decide))
              obtain ⟨ho2', hbw2⟩ := own_app hbw1 (Nat.le_refl _) hkept hown' hgrow
              clear hown' hgrow hkept ho3' hbw1 c5
              go_wp2_with fail
              go_roundw
              case rel => exact ⟨k + 1, by omega, by omega, by go_num, by rw [E1.out]; exact hkept3, by rw [E2.out]; exact ho2', hbw2⟩
              case measure => simp [intOf]; omega
            · have e2 : woL Mk Mi lb n5 (k + 1) = woL Mk Mi lb n5 k := by simp only [woL]; rw [if_neg (fun h => hin h.2)]
              have E2 := hid e2
              clear e2
              by_cases hin1 : lb ≤ k
              · have hin2 : ¬ k < lb + n5 := fun h => hin ⟨hin1, h⟩
                clear hin
                go_wp2_with fail
                go_roundw
                case rel => exact ⟨k + 1, by omega, by omega, by go_num, by rw [E1.out]; exact ho3', by rw [E2.out]; exact hkept, hbw1⟩
                case measure => simp [intOf]; omega
              · clear hin
                go_wp2_with fail
                go_roundw
                case rel => exact ⟨k + 1, by omega, by omega, by go_num, by rw [E1.out]; exact ho3', by rw [E2.out]; exact hkept, hbw1⟩
                case measure => simp [intOf]; omega
        · go_wp2_with fail
          go_meet
          case rel => exact ⟨k, hk1, hk2, ho3, ho2, hbw⟩
      · go_wp2_with fail
        go_meet
        case rel => exact ⟨k, hk1, hk2, ho3, ho2, hbw⟩
  case rest =>
    obtain ⟨k, hk1, hk2, ho3, ho2, hbw⟩ := hcut
    have hol := owL_len Mk k
    have hwl := woL_len Mk Mi lb n5 k
    obtain ⟨oa, oc, hv23, hOA, _⟩ := own_ints ho3 (by omega)
    obtain ⟨wa, wcp, hv24, hWA, _⟩ := own_ints ho2 (by omega)
    rw [hv23, hv24]
    clear hv23 hv24 ho3 ho2
    generalize hno : (owL Mk k).length = no at hol hOA ⊢
    generalize hnw : (woL Mk Mi lb n5 k).length = nw at hwl hWA ⊢
    have HNO := hid hno
    have HNW := hid hnw
    clear hno hnw
    go_wp2_with fail
    refine (newTxn28 0 (-1) _ n n wc).mono ?_
    rintro e w14 ⟨rfl, b14⟩
    go_wp2_with fail
    have b15 : Below wc.heap.size wc (w14.alloc (.cells #[.int .i64 0, .int .i64 (-1), .int .i64 0, .string ⟨#[]⟩, .slice (some ⟨w6.heap.size, 0, none⟩) n n] 51)) := b14.alloc b14.size _
    generalize w14.alloc (.cells #[.int .i64 0, .int .i64 (-1), .int .i64 0, .string ⟨#[]⟩, .slice (some ⟨w6.heap.size, 0, none⟩) n n] 51) = w15 at b15 ⊢
    have b1315 : Below w13.heap.size w13 w15 := hbw.trans (b15.mono hbw.size)
    obtain ⟨q1, q2, q3⟩ := with_bef (V := V') (L := L) (Z := Z) HF.out (.slice (some ⟨w8.heap.size, 0, none⟩) ll ll) ll (fun i => lst.getD i 0)
    refine (zzInternal29 0 (-1) 0 ⟨#[]⟩ w6.heap.size (w6.heap.size + 1) n n n K R E _ _ _ j oa no oc (fun i => (owL Mk k).getD i 0) w15 w8.heap.size ll ll (hM13.later b1315) (hOA.later b15) hjn (by omega) HR.out (by simp [withV]) (Nat.le_refl _) (by simp [withL]) (by omega) (by omega) bi Sx HF.out ⟨ab, cb, by rw [q1, q2]; exact HVB.out⟩).mono ?_
    rw [q1, q2, q3, HVB.out, HLB.out]
    simp only [withV, withZ, if_true]
    have hfits : Fits ll (fun i => lst.getD i 0) lb (befZ Z bi) Sx := by
      rw [HLST.out, HLL.out]; exact honest_fits lb n5 (befZ Z bi) Mi Sx
    have hbtw : btw (fun i => lst.getD i 0) lb ((ll : Int) - Sx.length) (fun i => (owL Mk k).getD i 0) no = woL Mk Mi lb n5 k := by
      have e : (ll : Int) - Sx.length = ((lb + n5 : Nat) : Int) := by rw [HLL.out]; omega
      rw [e, ← HNO.out]
      exact btw_want _ Mk Mi lb n5 (fun p h1 h2 => by rw [HLST.out]; exact honest_mid lb n5 (befZ Z bi) Mi Sx p h1 h2) k
    have hz : ((lb = 0 ∧ Sx.length = 0 ∧ no = 0) ∨ btw (fun i => lst.getD i 0) lb ((ll : Int) - Sx.length) (fun i => (owL Mk k).getD i 0) no = []) → nw = 0 := by
      intro h
      rw [← HNW.out, ← hbtw]
      rcases h with ⟨_, _, h0⟩ | h
      · rw [h0]; rfl
      · rw [h]; rfl
    rintro e w16 ⟨b16, h16⟩
    rcases h16 with ⟨rfl, hz16⟩ | ⟨vs', vo', rfl, hA, hS', hfin⟩
    · have hnw0 : nw = 0 := hz (by rcases hz16 with h | h; exact .inl h; exact .inr h.2)
      subst hnw0
      unfold anZ
      clear hz hz16 hbtw hfits
      go_wp2_with fail
      have h34 := zeroAn34 (w16.alloc (.cells anZ 56))
      unfold anZ at h34
      refine h34.mono ?_
      rintro e w17 ⟨rfl, b17⟩
      have s13 := bel13.size
      have s15 := b1315.size
      have s16 := b16.size
      have bfin : Below w.heap.size w w17 := ((bel13.trans (b1315.mono s13)).trans (b16.mono (by omega))).trans (((Below.refl _ _).alloc (Nat.le_refl _) _ |>.mono (by omega)).trans (b17.mono (by simp; omega)))
      clear h34
      go_wp2_with fail
      go_ret
      exact ⟨rfl, bfin⟩
    · obtain ⟨hne, hOwn⟩ : woL Mk Mi lb n5 k ≠ [] ∧ Ints w15.heap.size w16 vo' nw (fun i => (woL Mk Mi lb n5 k).getD i 0) := by
        rcases hfin with ⟨_, h1, h2⟩ | ⟨h1, _⟩
        · rw [hbtw] at h1 h2
          rw [HNW.out] at h2
          exact ⟨h1, h2⟩
        · exact absurd hfits h1
      have hnw : 0 < nw := by rw [← HNW.out]; exact List.length_pos_iff.2 hne
      have hnwi : (0 : Int) < nw := by omega
      obtain ⟨sa, sc, hvs', hSA', _⟩ := hS'
      obtain ⟨xa, xc, hvo', hXA, _⟩ := hOwn
      rw [hvs', hvo']
      unfold intStr
      clear hvs' hvo' hfin hz hbtw hfits hne hA
      obtain ⟨b0, o0, hb0, ck⟩ := S13.keys.at (k := j) (by omega)
      have b1316 : Below w13.heap.size w13 w16 := b1315.trans (b16.mono b1315.size)
      have ck := fun o => cell_alloc (cell_later b1316 ck) o
      subst hb0
      have hj0' : (j : Int) < (n0 : Int) := by omega
      have hKj := S13.kb j
      have qn : ∀ (w : World) (a : Option Addr) (n c n' c' : Nat), (binOp .eql 54 (.slice a n c) (.slice none n' c')).run Try.prog w = .ok (.bool a.isNone) w := fun w a n c n' c' => Lib.run_eql_slice_nil w _ _ a n c n' c' Try.underlying54
      have ck0 : w16.cell? ⟨b0, o0 + j, none⟩ = some (.int .u8 (K j)) := cell_later b1316 (S13.keys.cell (k := j) (by omega))
      have vl16 := (vl13.later b1316)
      obtain ⟨lxa, lxc, hvl', hLA, _⟩ := vl16
      simp only [Value.slice.injEq, true_and] at hvl'
      obtain ⟨rfl, rfl⟩ := hvl'
      have E1 := hid (fun (W : World) (hW : Below w16.heap.size w16 W) => eq30_true _ _ ll ll ll _ _ W (hLA.later hW) (hLA.later hW) (fun _ _ => rfl))
      have E2 := hid (fun (W : World) (hW : Below w16.heap.size w16 W) => eq30_true _ _ lb cb cb _ _ W ((hab13.later b1316).later hW) ((hab13.later b1316).later hW) (fun _ _ => rfl))
      have E3 := hid (fun (W : World) (hW : Below w16.heap.size w16 W) => eq30_true _ _ Sx.length sc vc _ _ W (hSA'.later hW) ((iS13.later b1316).later hW) (fun _ _ => rfl))
      have E4 := hid (fun (W : World) (hW : Below w16.heap.size w16 W) => eq30_true _ _ nw xc wcp _ _ W (hXA.later hW) (((hWA.later b15).later b16).later hW) (fun _ _ => rfl))
      go_wp2_with fail
      simp only [List.append_eq, List.cons_append, List.nil_append]
      obtain ⟨wN, hwN⟩ : ∃ wN, wN = w16.alloc (.cells #[.string ⟨#[105, 110, 116, 101, 114, 110, 97, 108]⟩, .int .i64 0, .int .i64 (-1), .string (keyStr (K j)), .int .i64 0, .int .i64 0, .int .i64 0, .int .i64 (j : Int), .slice (some ⟨w8.heap.size, 0, none⟩) ll ll, .slice ab lb cb, .slice sa Sx.length sc, .slice xa nw xc, .slice none 0 0] 56) := ⟨_, rfl⟩
      have hS0 : wN.cell? ⟨w16.heap.size, 0, none⟩ = some (.string ⟨#[105, 110, 116, 101, 114, 110, 97, 108]⟩) ∧ wN.cell? ⟨w16.heap.size, 1, none⟩ = some (.int .i64 0) ∧ wN.cell? ⟨w16.heap.size, 2, none⟩ = some (.int .i64 (-1)) ∧ wN.cell? ⟨w16.heap.size, 3, none⟩ = some (.string (keyStr (K j))) ∧ wN.cell? ⟨w16.heap.size, 4, none⟩ = some (.int .i64 0) ∧ wN.cell? ⟨w16.heap.size, 5, none⟩ = some (.int .i64 0) ∧ wN.cell? ⟨w16.heap.size, 6, none⟩ = some (.int .i64 0) ∧ wN.cell? ⟨w16.heap.size, 7, none⟩ = some (.int .i64 (j : Int)) ∧ wN.cell? ⟨w16.heap.size, 8, none⟩ = some (.slice (some ⟨w8.heap.size, 0, none⟩) ll ll) ∧ wN.cell? ⟨w16.heap.size, 9, none⟩ = some (.slice ab lb cb) ∧ wN.cell? ⟨w16.heap.size, 10, none⟩ = some (.slice sa Sx.length sc) ∧ wN.cell? ⟨w16.heap.size, 11, none⟩ = some (.slice xa nw xc) ∧ wN.cell? ⟨w16.heap.size, 12, none⟩ = some (.slice none 0 0) ∧ wN.cell? ⟨b0, o0 + j, none⟩ = some (.int .u8 (K j)) ∧ Below w16.heap.size w16 wN := by
        rw [hwN]
        exact ⟨by simp, by simp, by simp, by simp, by simp, by simp, by simp, by simp, by simp, by simp, by simp, by simp, by simp, cell_alloc ck0 _, (Below.refl _ _).alloc (Nat.le_refl _) _⟩
      rw [← hwN]
      have hS1 := regS_alloc hS0 (Nat.le_refl _) (.cells #[.int .u8 107, .int .u8 (48 + K j % 4)] 5)
      have H0 := hid hS0
      have H1 := hid hS1
      have s13 := bel13.size
      have s15 := b1315.size
      have s16 := b16.size
      have bel16 : Below w.heap.size w w16 := (bel13.trans (b1315.mono s13)).trans (b16.mono (by omega))
      have HB := hid bel16
      clear hwN ck ck0 hS0 hS1 S13 hM13 hbw b15 b1315 b1316 b16 b14 bel13 bel16 iS13 vl13 mk13 mi13 hab13 hOA hWA hSA' hXA hLA HLL HLST HLEN HNO HNW HVB HVS HLB HF HL hi hz0 hz1 hz2 hi1 hy0 hy1 hy2 q1 q2 q3 hlb hSx hll1 hll2 hol hwl hk1 hk2 hj1 hjn' g0 g1 g2 g3 g5 g6 ht0 ht1 l0 l1 l2 l3 hw67 s13 s15 s16 hnw
      as_aux_lemma =>
        go_region_held3 (fun w' => w'.cell? ⟨w16.heap.size, 0, none⟩ = some (.string ⟨#[105, 110, 116, 101, 114, 110, 97, 108]⟩) ∧ w'.cell? ⟨w16.heap.size, 1, none⟩ = some (.int .i64 0) ∧ w'.cell? ⟨w16.heap.size, 2, none⟩ = some (.int .i64 (-1)) ∧ w'.cell? ⟨w16.heap.size, 3, none⟩ = some (.string (keyStr (K j))) ∧ w'.cell? ⟨w16.heap.size, 4, none⟩ = some (.int .i64 0) ∧ w'.cell? ⟨w16.heap.size, 5, none⟩ = some (.int .i64 0) ∧ w'.cell? ⟨w16.heap.size, 6, none⟩ = some (.int .i64 0) ∧ w'.cell? ⟨w16.heap.size, 7, none⟩ = some (.int .i64 (j : Int)) ∧ w'.cell? ⟨w16.heap.size, 8, none⟩ = some (.slice (some ⟨w8.heap.size, 0, none⟩) ll ll) ∧ w'.cell? ⟨w16.heap.size, 9, none⟩ = some (.slice ab lb cb) ∧ w'.cell? ⟨w16.heap.size, 10, none⟩ = some (.slice sa Sx.length sc) ∧ w'.cell? ⟨w16.heap.size, 11, none⟩ = some (.slice xa nw xc) ∧ w'.cell? ⟨w16.heap.size, 12, none⟩ = some (.slice none 0 0) ∧ w'.cell? ⟨b0, o0 + j, none⟩ = some (.int .u8 (K j)) ∧ Below w16.heap.size w16 w') (first | exact regS_same H0.out rfl rfl rfl rfl | exact regS_same H1.out rfl rfl rfl rfl) (first | (go_at_call 35; refine (keyName35 _ (by omega) (by omega) _).mono ?_; rintro e w' ⟨rfl, rfl⟩) | (go_at_call_of 30 (Value.slice (some ⟨w8.heap.size, 0, none⟩) ll ll); refine (E1.out _ (regS_below (by assumption))).mono ?_; rintro e w' ⟨rfl, m, rfl⟩) | (go_at_call_of 30 (Value.slice ab lb cb); refine (E2.out _ (regS_below (by assumption))).mono ?_; rintro e w' ⟨rfl, m, rfl⟩) | (go_at_call_of 30 (Value.slice sa Sx.length sc); refine (E3.out _ (regS_below (by assumption))).mono ?_; rintro e w' ⟨rfl, m, rfl⟩) | (go_at_call_of 30 (Value.slice xa nw xc); refine (E4.out _ (regS_below (by assumption))).mono ?_; rintro e w' ⟨rfl, m, rfl⟩))
        go_wp2_with fail
        go_ret
        exact ⟨rfl, HB.out.trans (belowN ((regS_below H1.out).mono HB.out.size) _)⟩
end Go.Proofs.Qxb6600044a
