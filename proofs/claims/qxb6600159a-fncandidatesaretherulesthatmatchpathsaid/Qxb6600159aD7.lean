import Derived.Test.Qxb6600159aD6
namespace Go.Proofs.Qxb6600159a
open Go.RowKit
set_option linter.unusedVariables false

theorem least_take {Q : Nat → List Int} {K : Nat} (h1 : 0 < (Q K).length) (h2 : leastN Q K < 0 ∨ (Q K).getD 0 0 < leastN Q K) : leastN Q (K + 1) = (Q K).getD 0 0 := by rw [leastN, if_pos ⟨h1, h2⟩]
theorem least_skip {Q : Nat → List Int} {K : Nat} (h : ¬ (0 < (Q K).length ∧ (leastN Q K < 0 ∨ (Q K).getD 0 0 < leastN Q K))) : leastN Q (K + 1) = leastN Q K := by rw [leastN, if_neg h]

/-- The second walk over the lists, behind K of them. -/
def N2 (w : World) (X T : Nat) (mv : Value) (Q : Nat → List Int) (L : Int) (R K : Nat) (wr : World) : Prop :=
  ∃ V', Cand wr X T V' mv ∧ Hid (∀ i, i < T → IntsB X wr (V' i) (if i < K then adv Q L i else Q i)) ∧ Touch X mv w wr ∧ (∀ t, t < 2 → wr.cell? ⟨R, t, none⟩ = some (partV X T mv t))

theorem adv_take {Q : Nat → List Int} {L : Int} {K : Nat} (h1 : 0 < (Q K).length) (h2 : (Q K).getD 0 0 = L) : adv Q L K = (Q K).drop 1 := by unfold adv; rw [if_pos ⟨h1, h2⟩]
theorem adv_keep {Q : Nat → List Int} {L : Int} {K : Nat} (h : ¬ (0 < (Q K).length ∧ (Q K).getD 0 0 = L)) : adv Q L K = Q K := by unfold adv; rw [if_neg h]

theorem N2.skip {w wr : World} {X T R K : Nat} {mv : Value} {Q : Nat → List Int} {L : Int} (h : N2 w X T mv Q L R K wr) (hk : adv Q L K = Q K) : N2 w X T mv Q L R (K + 1) wr := by
  obtain ⟨V', h1, h2, h3, h4⟩ := h
  refine ⟨V', h1, hid (fun i hi => ?_), h3, h4⟩
  have := h2.out i hi
  by_cases e : i = K
  · subst e
    rw [if_neg (by omega)] at this
    rw [if_pos (by omega), hk]
    exact this
  · by_cases e2 : i < K
    · rw [if_pos e2] at this; rw [if_pos (by omega)]; exact this
    · rw [if_neg e2] at this; rw [if_neg (by omega)]; exact this

theorem N2.put {w wr : World} {X T R K b j : Nat} {mv : Value} {Q : Nat → List Int} {L : Int} {V' : Nat → Value} (hC : ∀ v, Cand (wr.setCell ⟨b, j, none⟩ v) X T (vSet V' K v) mv) (hb : b = X ∨ mv.ownBlock = some b)
    (hI : ∀ i, i < T → IntsB X wr (V' i) (if i < K then adv Q L i else Q i)) (hT : Touch X mv w wr) (hc : ∀ t, t < 2 → wr.cell? ⟨R, t, none⟩ = some (partV X T mv t)) (hX : X ≠ R) (hG : ∀ g, mv.ownBlock = some g → g ≠ R ∧ X < g) (v : Value) (hv : IntsB X wr v (adv Q L K)) :
    N2 w X T mv Q L R (K + 1) (wr.setCell ⟨b, j, none⟩ v) := by
  have hbX : X ≤ b := by
    rcases hb with rfl | hb
    · exact Nat.le_refl _
    · have := (hG b hb).2; omega
  have hbR : R ≠ b := by
    rcases hb with rfl | hb
    · exact hX.symm
    · exact (hG b hb).1.symm
  have hbel : Below X wr (wr.setCell ⟨b, j, none⟩ v) := (Below.refl X wr).setCell (p := ⟨b, j, none⟩) hbX v
  refine ⟨_, hC v, hid (fun i hi => ?_), hT.setCell hb v, fun t ht => ?_⟩
  · by_cases e : i = K
    · subst e
      rw [if_pos (by omega)]
      have e2 : vSet V' i v i = v := by simp [vSet]
      rw [e2]
      exact hv.below hbel
    · have e2 : vSet V' K v i = V' i := by simp [vSet, e]
      rw [e2]
      have := (hI i hi).below hbel
      by_cases e3 : i < K
      · rw [if_pos e3] at this; rw [if_pos (by omega)]; exact this
      · rw [if_neg e3] at this; rw [if_neg (by omega)]; exact this
  · exact (World.cell?_of_block (a := ⟨R, t, none⟩) (Below.heap_setCell wr ⟨b, j, none⟩ v R hbR)).trans (hc t ht)

theorem Cand.mv {w : World} {X T : Nat} {V : Nat → Value} {mv : Value} (h : Cand w X T V mv) : ∃ a n c, mv = .slice a n c := by
  rcases h.more.2 with ⟨h1, _⟩ | ⟨g, cap, cur, h1, _⟩
  · exact ⟨_, _, _, h1⟩
  · exact ⟨_, _, _, h1⟩

theorem two_cells {W : World} {R : Nat} {s0 s1 : Value} {X T : Nat} {mv : Value} {t0 : Nat} (h0 : partV X T mv 0 = s0) (h1 : partV X T mv 1 = s1) (hR : W.heap[R]? = some (.cells #[s0, s1] t0 (0, 0))) : ∀ t, t < 2 → W.cell? ⟨R, t, none⟩ = some (partV X T mv t) := by
  intro t ht
  have ht2 : t = 0 ∨ t = 1 := by omega
  rcases ht2 with rfl | rfl
  · rw [h0]; exact resC hR 0 _ rfl
  · rw [h1]; exact resC hR 1 _ rfl

set_option maxRecDepth 100000 in
set_option maxHeartbeats 2000000 in
theorem next41 (w : World) (X T : Nat) (V : Nat → Value) (mv : Value) (Q : Nat → List Int) (h : Cand w X T V mv) (hT : T ≤ 1048576) (hQ : ∀ i, i < T → IntsB X w (V i) (Q i)) (hq : ∀ i, i < T → (Q i).length ≤ 1048576) (hn : Nonneg Q T) :
    Calls Try.prog 41 #[.pointer (some ⟨X, 0, none⟩)] w (NextPost w X T V mv Q) := by
  obtain ⟨ma, mn, mc, hmv⟩ := h.mv
  have c16 := h.row.cell (i := 16) (by omega)
  have c17 := h.row.cell (i := 17) (by omega)
  have e16 : candF T V mv 16 = .int .i64 ((min T 16 : Nat) : Int) := rfl
  have e17 : candF T V mv 17 = mv := rfl
  rw [e16] at c16
  rw [e17, hmv] at c17
  obtain ⟨m, hm⟩ : ∃ m, m = min T 16 := ⟨_, rfl⟩
  rw [← hm] at c16
  have hm16 : m ≤ 16 := by omega
  have i1 : (m : Int) ≤ 16 := by omega
  have i2 : (0 : Int) ≤ (m : Int) := by omega
  have P0 := hid (show partV X T mv 0 = .slice (some ⟨X, 0, none⟩) m 16 by simp [partV, hm])
  have P1 := hid (show partV X T mv 1 = .slice ma mn mc by simp [partV, hmv])
  have HC := hid h
  have HQ := hid hQ
  have hXl := h.lt
  have Hq := hid hq
  have Hn := hid hn
  have Hm := hid hm
  have Hmv := hid hmv
  clear h hQ e16 e17 hm hmv hq hn
  go_enter Try.func41, Try.ntmps41
  go_wp2
  go_region
  go_wp2
  obtain ⟨W0, hW0⟩ : ∃ W0, W0 = (w.alloc (Obj.cells #[Value.slice (some { block := X, off := 0 }) m 16, Value.slice ma mn mc] 22)).drew := ⟨_, rfl⟩
  have T0 := hid (show Touch X mv w W0 by rw [hW0]; exact ((Touch.refl X mv w).alloc _).same rfl rfl rfl rfl)
  have C0 := hid (show Cand W0 X T V mv by
    rw [hW0]
    exact HC.out.kept (Below.heap_alloc _ _ _ hXl) (fun g hg => Below.heap_alloc _ _ _ (HC.out.more.lt g hg).2))
  have D0 := hid (two_cells (W := W0) (R := w.heap.size) (t0 := 22) P0.out P1.out (by rw [hW0]; show (w.heap.push _)[w.heap.size]? = _; simp))
  have Q0 := hid (fun i hi => (HQ.out i hi).below (T0.out.below HC.out))
  rw [← hW0]
  clear hW0 c16 c17
  go_loopw [4, 6, 8, 27, 33] (fun v4 _ _ v27 _ wr => ∃ t : Nat, t ≤ 2 ∧ v27 = .int .i64 t ∧ v4 = .int .i32 (leastN Q (Kt T t)) ∧ IsW W0 wr) (fun _ _ _ v27 _ _ => 2 - (intOf v27).toNat)
  case atStart => exact ⟨0, by omega, rfl, rfl, rfl⟩
  case round =>
    obtain ⟨t, ht, rfl, rfl, hw⟩ := hrel
    obtain rfl := IsW.eq hw
    by_cases ht2 : t < 2
    · obtain ⟨pa, n, pc, hpv, hnc, hKn, hKT, hArr⟩ := C0.out.part hT ht2
      have cp := D0.out t ht2
      rw [hpv] at cp
      have i3 : (t : Int) < 2 := by omega
      have HK := hid hKn
      have hK0 : Kt T t + n ≤ T := by omega
      have hn1 : n ≤ 1048576 := by omega
      clear hKn hKT
      go_wp2
      go_loopw [4, 8, 33] (fun v4 _ v33 wr => ∃ j : Nat, j ≤ n ∧ v33 = .int .i64 j ∧ v4 = .int .i32 (leastN Q (Kt T t + j)) ∧ IsW W0 wr) (fun _ _ v33 _ => n - (intOf v33).toNat)
      case atStart => exact ⟨0, by omega, rfl, rfl, rfl⟩
      case round =>
        obtain ⟨j, hj, rfl, rfl, hw2⟩ := hrel
        obtain rfl := IsW.eq hw2
        by_cases hjn : j < n
        · obtain ⟨b, off, rfl, hc⟩ := hArr.at hjn
          obtain ⟨la, lc, hv, hlc, hA, _⟩ := Q0.out (Kt T t + j) (by omega)
          have hlen := Hq.out (Kt T t + j) (by omega)
          rw [hv] at hc
          have i4 : (j : Int) < (n : Int) := by omega
          have LT1 := hid (fun a b => least_take (Q := Q) (K := Kt T t + j) a b)
          have LS1 := hid (fun a => least_skip (Q := Q) (K := Kt T t + j) a)
          have HA := hid hA
          obtain ⟨L, hL⟩ : ∃ L, L = leastN Q (Kt T t + j) := ⟨_, rfl⟩
          obtain ⟨x, hx⟩ : ∃ x, x = (Q (Kt T t + j)).getD 0 0 := ⟨_, rfl⟩
          obtain ⟨l, hl⟩ : ∃ l, l = (Q (Kt T t + j)).length := ⟨_, rfl⟩
          have CH := hid (fun (hl0 : 0 < l) => by have := HA.out.at (k := 0) (by rw [← hl]; exact hl0); rw [← hx] at this; exact this)
          rw [← hl] at hc hlc hlen
          rw [← hL]
          have HL := hid hL
          have HX := hid hx
          have Hl := hid hl
          clear hL hx hl hv hA
          by_cases hl0 : l = 0
          · subst hl0
            have LT : Hid (leastN Q (Kt T t + (j + 1)) = L) := hid (by rw [← Nat.add_assoc, LS1.out (by rw [← Hl.out]; omega), HL.out])
            go_wp2
            go_roundw
            case rel => exact ⟨j + 1, by omega, by go_num, by rw [LT.out], rfl⟩
            case measure => simp [intOf]; omega
          · have d0 : (0 : Int) < (l : Int) := by omega
            obtain ⟨b2, o2, rfl, ch⟩ := CH.out (by omega)
            rw [Nat.add_zero] at ch
            by_cases hL0 : L < 0
            · have LT : Hid (leastN Q (Kt T t + (j + 1)) = x) := hid (by rw [← Nat.add_assoc, LT1.out (by rw [← Hl.out]; omega) (.inl (by rw [← HL.out]; exact hL0)), HX.out])
              go_wp2
              go_roundw
              case rel => exact ⟨j + 1, by omega, by go_num, by rw [LT.out], rfl⟩
              case measure => simp [intOf]; omega
            · by_cases hxL : x < L
              · have LT : Hid (leastN Q (Kt T t + (j + 1)) = x) := hid (by rw [← Nat.add_assoc, LT1.out (by rw [← Hl.out]; omega) (.inr (by rw [← HL.out, ← HX.out]; exact hxL)), HX.out])
                go_wp2
                go_roundw
                case rel => exact ⟨j + 1, by omega, by go_num, by rw [LT.out], rfl⟩
                case measure => simp [intOf]; omega
              · have LT : Hid (leastN Q (Kt T t + (j + 1)) = L) := hid (by rw [← Nat.add_assoc, LS1.out (by rw [← HL.out, ← HX.out]; rintro ⟨_, h | h⟩ <;> omega), HL.out])
                go_wp2
                go_roundw
                case rel => exact ⟨j + 1, by omega, by go_num, by rw [LT.out], rfl⟩
                case measure => simp [intOf]; omega
        · obtain rfl : j = n := by omega
          go_wp2
          go_roundw
          case rel => exact ⟨t + 1, by omega, by go_num, by rw [HK.out], rfl⟩
          case measure => simp [intOf]; omega
    · obtain rfl : t = 2 := by omega
      rw [Kt2]
      obtain ⟨L, hL⟩ : ∃ L, L = leastN Q T := ⟨_, rfl⟩
      rw [← hL]
      have HL := hid hL
      clear hL
      by_cases hL0 : L < 0
      · go_wp2
        go_ret2
        exact .inl ⟨by rw [← HL.out]; exact hL0, rfl, C0.out, T0.out⟩
      · have c16 := C0.out.row.cell (i := 16) (by omega)
        have c17 := C0.out.row.cell (i := 17) (by omega)
        have e16 : candF T V mv 16 = .int .i64 ((min T 16 : Nat) : Int) := rfl
        have e17 : candF T V mv 17 = mv := rfl
        rw [e16, ← Hm.out] at c16
        rw [e17, Hmv.out] at c17
        clear e16 e17 HQ HC D0
        have hXl0 := C0.out.lt
        go_wp2
        go_region
        go_wp2
        obtain ⟨W1, hW1⟩ : ∃ W1, W1 = (W0.alloc (Obj.cells #[Value.slice (some { block := X, off := 0 }) m 16, Value.slice ma mn mc] 22)).drew := ⟨_, rfl⟩
        have hR : w.heap.size ≤ W0.heap.size := T0.out.size
        have S0 := hid (show N2 w X T mv Q L W0.heap.size 0 W1 by
          rw [hW1]
          refine ⟨V, C0.out.kept (Below.heap_alloc _ _ _ hXl0) (fun g hg => Below.heap_alloc _ _ _ (C0.out.more.lt g hg).2), hid (fun i hi => ?_), (T0.out.alloc _).same rfl rfl rfl rfl, two_cells (t0 := 22) P0.out P1.out (by show (W0.heap.push _)[W0.heap.size]? = _; simp)⟩
          rw [if_neg (by omega)]
          exact (Q0.out i hi).below (below_same ((Below.refl X W0).alloc (by omega) _) rfl rfl rfl rfl))
        have HXR := hid (show X ≠ W0.heap.size by omega)
        have HGR := hid (fun g (hg : mv.ownBlock = some g) => show g ≠ W0.heap.size ∧ X < g from ⟨by have := (C0.out.more.lt g hg).2; omega, by have := (C0.out.more.lt g hg).1; omega⟩)
        rw [← hW1]
        generalize W0.heap.size = R at S0 HXR HGR hR
        clear hW1 c16 c17
        go_loopw [10, 11, 12, 72, 78] (fun _ _ _ v72 _ wr => ∃ t : Nat, t ≤ 2 ∧ v72 = .int .i64 t ∧ N2 w X T mv Q L R (Kt T t) wr) (fun _ _ _ v72 _ _ => 2 - (intOf v72).toNat)
        case atStart => exact ⟨0, by omega, rfl, S0.out⟩
        case round =>
          obtain ⟨t, ht, rfl, hN⟩ := hrel
          by_cases ht2 : t < 2
          · obtain ⟨V', hC, hI, hTo, hcl⟩ := id hN
            obtain ⟨pa, n, pc, hpv, hnc, hKn, hKT, _⟩ := hC.part hT ht2
            have cp := hcl t ht2
            rw [hpv] at cp
            have i3 : (t : Int) < 2 := by omega
            have HK := hid hKn
            have hK0 : Kt T t + n ≤ T := by omega
            have hn1 : n ≤ 1048576 := by omega
            have HN := hid hN
            clear hC hI hTo hcl hN hKn hKT
            go_wp2
            go_loopw [11, 12, 78] (fun _ _ v78 wr => ∃ j : Nat, j ≤ n ∧ v78 = .int .i64 j ∧ N2 w X T mv Q L R (Kt T t + j) wr) (fun _ _ v78 _ => n - (intOf v78).toNat)
            case atStart => exact ⟨0, by omega, rfl, HN.out⟩
            case round =>
              clear HN cp
              obtain ⟨j, hj, rfl, hN⟩ := hrel
              by_cases hjn : j < n
              · obtain ⟨V2, hC2, hI2, hTo2, hcl2⟩ := id hN
                obtain ⟨b, rfl, hf, hc, hbX, hput⟩ := hC2.put ht2 hpv HK.out hjn
                have hIK := hI2.out (Kt T t + j) (by omega)
                rw [if_neg (by omega)] at hIK
                have hlen := Hq.out (Kt T t + j) (by omega)
                obtain ⟨la, lc, hv, hlc, _, _⟩ := id hIK
                obtain ⟨l, hl⟩ : ∃ l, l = (Q (Kt T t + j)).length := ⟨_, rfl⟩
                rw [← hl] at hv hlc hlen
                rw [hv] at hc hIK
                have i4 : (j : Int) < (n : Int) := by omega
                have HN := hid hN
                have PUT := hid (fun v hv => N2.put hput hbX hI2.out hTo2 hcl2 HXR.out HGR.out v hv)
                have AK := hid (fun a => adv_keep (Q := Q) (L := L) (K := Kt T t + j) a)
                have AT := hid (fun a b => adv_take (Q := Q) (L := L) (K := Kt T t + j) a b)
                have HIK := hid hIK
                have Hl := hid hl
                clear hC2 hI2 hTo2 hcl2 hput hN hIK hv hl
                by_cases hl0 : l = 0
                · subst hl0
                  have SK := hid (HN.out.skip (AK.out (by rw [← Hl.out]; omega)))
                  go_wp2
                  go_roundw
                  case rel => exact ⟨j + 1, by omega, by go_num, SK.out⟩
                  case measure => simp [intOf]; omega
                · obtain ⟨b2, o2, rfl, ch, _, _, htl⟩ := HIK.out.tail (by omega)
                  have d0 : (0 : Int) < (l : Int) := by omega
                  obtain ⟨x, hx⟩ : ∃ x, x = (Q (Kt T t + j)).getD 0 0 := ⟨_, rfl⟩
                  rw [← hx] at ch
                  have HX := hid hx
                  have HTL := hid htl
                  clear hx htl
                  have i5 : (1 : Int) ≤ (l : Int) := by omega
                  have i6 : (l : Int) ≤ (lc : Int) := by omega
                  by_cases hxL : x = L
                  · have d1 : (x == L) = true := by simp [hxL]
                    have ST := hid (PUT.out _ (by rw [AT.out (by rw [← Hl.out]; omega) (by rw [← HX.out]; exact hxL)]; exact HTL.out))
                    clear hxL
                    by_cases hc1 : lc = 1
                    · have ST2 := ST
                      rw [if_pos hc1] at ST2
                      have hl1 : l = 1 := by omega
                      subst hc1
                      subst hl1
                      go_wp2
                      go_roundw
                      case rel => exact ⟨j + 1, by omega, by go_num, ST2.out⟩
                      case measure => simp [intOf]; omega
                    · have ST2 := ST
                      rw [if_neg hc1] at ST2
                      go_wp2
                      go_roundw
                      case rel => exact ⟨j + 1, by omega, by go_num, ST2.out⟩
                      case measure => simp [intOf]; omega
                  · have d1 : (x == L) = false := by simp [hxL]
                    have SK := hid (HN.out.skip (AK.out (by rw [← HX.out]; rintro ⟨_, e⟩; exact hxL e)))
                    go_wp2
                    go_roundw
                    case rel => exact ⟨j + 1, by omega, by go_num, SK.out⟩
                    case measure => simp [intOf]; omega
              · obtain rfl : j = n := by omega
                have HN := hid hN
                clear hN
                go_wp2
                go_roundw
                case rel => exact ⟨t + 1, by omega, by go_num, by rw [← HK.out]; exact HN.out⟩
                case measure => simp [intOf]; omega
          · obtain rfl : t = 2 := by omega
            have HN := hid hN
            clear hN
            go_wp2
            go_ret2
            obtain ⟨V', h1, h2, h3, _⟩ := HN.out
            refine .inr ⟨by rw [← HL.out]; omega, by rw [← HL.out]; rfl, V', h1, fun i hi => ?_, h3⟩
            have := h2.out i hi
            rw [Kt2, if_pos hi, HL.out] at this
            exact this
end Go.Proofs.Qxb6600159a
