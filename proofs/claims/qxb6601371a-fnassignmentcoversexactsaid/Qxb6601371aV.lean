import Derived.Test.Qxb6601371aA0
import Derived.ProofKit
import Derived.ChangeOld
import Derived.Deep.Matrix
import Derived.Deep.Grids
namespace Go.Proofs.Qxb6601371a
open Go.ChangeShapes Go.WideShapes Go.ChangeAt Go.RowKit Go.Deep
set_option linter.unusedVariables false

section
variable {H : Type} {enc : TypeId × Value → H} {P : Program} {W : World}

theorem arr_of {W : World} {a : Addr} {n : Nat} {f : Nat → Value} (hn : n ≤ 9223372036854775807) (h : ∀ i, i < n → W.cell? (a.add i) = some (f i)) : Arr W (some a) n f := by
  refine ⟨hn, ?_⟩
  by_cases h0 : n = 0
  · exact .inl h0
  · obtain ⟨b, off, spot⟩ := a
    have hspot : spot = none := by simpa [Addr.add] using World.cell?_spot (h 0 (by omega))
    subst hspot
    exact .inr ⟨b, off, rfl, fun i hi => by rw [← addPlain]; exact h i hi⟩

theorem wf_zero (k : IntKind) : (Lit.int k 0).wf = true := by cases k <;> decide

/-- A slice of integers that came in. -/
theorem view_ints {t e : TypeId} {k : IntKind} {a : Option Addr} {n c : Nat} {d : DataW H} {p : List MemPlace} (ht : P.underlying t = some (.slice e)) (he : P.underlying e = some (.int k)) (hc : P.cellsOf e = 1)
    (h : DataW.Trod enc P W 0 (fun _ => true) true t (.slice a n c) d p) : ∃ z : Nat → Int, Arr W a n (fun i => .int k (z i)) ∧ ∀ i, (Lit.int k (z i)).wf = true := by
  obtain ⟨fuel, hf⟩ := h
  rcases open_ints ht he hc hf with ⟨hcs, _⟩ | ⟨x, l, c', zs, hcs, _, hl, hm, hz, _, hcell, hwz⟩
  · simp [Value.cells] at hcs
    obtain ⟨rfl, rfl, rfl⟩ := hcs
    exact ⟨fun _ => 0, ⟨by omega, .inl rfl⟩, fun _ => wf_zero k⟩
  · simp [Value.cells] at hcs
    obtain ⟨rfl, rfl, rfl⟩ := hcs
    simp only [if_true] at hz
    unfold maxLen at hm
    refine ⟨fun i => zs.getD i 0, arr_of (by omega) fun i hi => hcell i (by omega), fun i => ?_⟩
    show (Lit.int k (zs.getD i 0)).wf = true
    by_cases hi : i < zs.length
    · have e : zs.getD i 0 = zs[i] := by simp [hi]
      rw [e]
      exact hwz _ (List.getElem_mem hi)
    · have e : zs.getD i 0 = 0 := by simp [List.getElem?_eq_none (by omega : zs.length ≤ i)]
      rw [e]
      exact wf_zero k
end
end Go.Proofs.Qxb6601371a
