import Derived.Test.Qxb6600044aA5
namespace Go.Proofs.Qxb6600044a
open Go.RowKit
set_option linter.unusedVariables false

theorem rev48_nil (w : World) : Calls Try.prog 48 #[.slice none 0 0] w fun e w' => e = .returned (.tuple #[]) ∧ w' = w := by
  go_enter Try.func48, Try.ntmps48
  go_wp2
  refine wp_loop_rounds 1 ?_
  rw [rounds_succ]
  go_wp2
  go_end0
  exact ⟨rfl, rfl⟩

theorem iv_getElem? (xs : List Int) (i : Nat) (hi : i < xs.length) : (iv xs)[i]? = some (.int .i64 (xs.getD i 0)) := by
  simp [iv, hi]

/-- slices.Reverse on a row that the call owns. -/
theorem rev_own (w : World) (base : Nat) (v : Value) (xs : List Int) (h : w.ownsRow base 2 1 v xs.length (iv xs)) (hl : xs.length ≤ 9223372036854775807) :
    Calls Try.prog 48 #[v] w fun e w' => e = .returned (.tuple #[]) ∧ w'.ownsRow base 2 1 v xs.reverse.length (iv xs.reverse) ∧ w.grownBy w' v.ownBlock := by
  rcases h.2 with ⟨rfl, h0⟩ | ⟨g, cap, cur, rfl, hb, hg, hnc, hcm, hcs, htake⟩
  · have : xs = [] := List.eq_nil_of_length_eq_zero h0
    subst this
    refine (rev48_nil w).mono ?_
    rintro e w' ⟨rfl, rfl⟩
    exact ⟨rfl, World.ownsRow_nil _ _ _ _, grownBy_refl _ _⟩
  · simp only [Nat.mul_one] at hcs htake
    have hrow : w.rowIs g 2 cap (fun i => cur.getD i undef) := ⟨cur, hg, hcs, fun i hi => by simp [hcs, hi]⟩
    have hf : ∀ i, i < xs.length → (fun i => cur.getD i undef) i = .int .i64 (xs.getD i 0) := by
      intro i hi
      have h1 := iv_getElem? xs i hi
      rw [← htake, List.getElem?_take, if_pos hi] at h1
      simp only [Array.getElem?_toList] at h1
      simp [Array.getD_eq_getD_getElem?, h1]
    refine (rev48 g cap xs.length (fun i => xs.getD i 0) _ w hrow hf hnc hl).mono ?_
    rintro e w' ⟨rfl, ⟨f', ⟨c', hb', hs', hc'⟩, hf'⟩, hgr⟩
    refine ⟨rfl, ⟨by simp [iv], .inr ⟨g, cap, c', by simp, hb, hb', by simpa using hnc, hcm, by simpa using hs', ?_⟩⟩, hgr⟩
    apply List.ext_getElem?
    intro i
    by_cases hi : i < xs.length
    · have e1 : i < xs.reverse.length := by simpa using hi
      rw [iv_getElem? _ _ e1, List.getElem?_take, if_pos (by simpa using hi), Array.getElem?_toList, hc' i (by omega), hf' i hi]
      simp [List.getD_eq_getElem?_getD, List.getElem?_reverse hi]
    · rw [List.getElem?_eq_none (by simp; omega), List.getElem?_eq_none (by simp [iv]; omega)]
end Go.Proofs.Qxb6600044a
