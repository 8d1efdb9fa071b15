import Derived.Test.Qxb6600044aE3
namespace Go.Proofs.Qxb6600044a
open Go.RowKit
set_option linter.unusedVariables false

/-- Some bool, and nothing that was there is written. -/
def RetAny (w : World) (e : Ending) (w' : World) : Prop := ∃ b : Bool, e = .returned (.bool b) ∧ Below w.heap.size w w'

set_option maxHeartbeats 1000000 in
theorem rw46 (a : Option Addr) (c n : Nat) (xs : List Arc) (w : World) (hx : Arcs w a xs) (hn : xs.length = n) (hn1 : n ≤ 4096) :
    Calls Try.prog 46 #[.slice a n c] w (RetAny w) := by
  have HX := hid hn
  clear hn
  go_enter Try.func46, Try.ntmps46
  go_wp2
  go_loopw [3, 4, 7] (fun _ _ i wr => ∃ k : Nat, k ≤ n ∧ i = .int .i64 k ∧ Below w.heap.size w wr) (fun _ _ i _ => n - (intOf i).toNat)
  case atStart => exact ⟨0, Nat.zero_le _, rfl, Below.refl _ _⟩
  case round =>
    obtain ⟨k, hk, rfl, hbel⟩ := hrel
    by_cases hlt : k < n
    · obtain ⟨b, off, rfl, c0, c1, c2, c3⟩ := (hx.later hbel).at (k := k) (by rw [HX.out]; exact hlt)
      obtain ⟨j, hj⟩ : ∃ j, j = (k + 1) % n := ⟨_, rfl⟩
      have hjn : j < n := by rw [hj]; exact Nat.mod_lt _ (by omega)
      obtain ⟨b', off', e', _, _, _, d3⟩ := (hx.later hbel).at (k := j) (by rw [HX.out]; exact hjn)
      simp only [Option.some.injEq, Addr.mk.injEq, and_true] at e'
      obtain ⟨rfl, rfl⟩ := e'
      have hki : (k : Int) < (n : Int) := by omega
      have hji : (j : Int) < (n : Int) := by omega
      have hm : ((k : Int) + 1).tmod (n : Int) = (j : Int) := by rw [hj]; exact Int.tmod_eq_emod_of_nonneg (by omega)
      have hm' : ((k : Int) + 1) % (n : Int) = (j : Int) := by rw [hj]; simp
      have hn0 : ¬ ((n : Int) = 0) := by omega
      have d3' := fun o => cell_alloc d3 o
      have hb := fun o => hbel.alloc hbel.size o
      generalize (arcAt xs k).d = dk at c3
      generalize (arcAt xs j).d = dj at d3 d3'
      clear hj d3
      have HB := hid hb
      clear hb
      by_cases h3 : dk = 3
      · subst h3
        by_cases h4 : dj = 3
        · subst h4
          go_wp2
          go_ret
          exact ⟨_, rfl, HB.out _⟩
        · have h4' : (dj == 3) = false := by simp [h4]
          go_wp2
          go_roundw
          case rel => exact ⟨k + 1, by omega, by go_num, HB.out _⟩
          case measure => simp [intOf]; omega
      · have h3' : (dk == 3) = false := by simp [h3]
        go_wp2
        go_roundw
        case rel => exact ⟨k + 1, by omega, by go_num, HB.out _⟩
        case measure => simp [intOf]; omega
    · go_wp2
      go_ret
      exact ⟨_, rfl, hbel⟩
end Go.Proofs.Qxb6600044a
