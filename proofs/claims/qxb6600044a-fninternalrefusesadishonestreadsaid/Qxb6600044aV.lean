import Derived.Test.Qxb6600044aA8
import Derived.ProofKit
import Derived.ChangeOld
import Derived.Deep.Matrix
import Derived.Deep.Grids
namespace Go.Proofs.Qxb6600044a
open Go.ChangeShapes Go.WideShapes Go.ChangeAt Go.RowKit Go.Deep
set_option linter.unusedVariables false

section
variable {H : Type} {enc : TypeId × Value → H} {P : Program} {W : World}

theorem arr_of {W : World} {a : Addr} {n : Nat} {f : Nat → Value} (hn : n ≤ 9223372036854775807) (h : ∀ i, i < n → W.cell? (a.add i) = some (f i)) : Arr W (some a) n f := by
  refine ⟨hn, ?_⟩
  by_cases h0 : n = 0
  · exact .inl h0
  · obtain ⟨b, off, spot⟩ := a
    have hspot : spot = none := by simpa [Addr.add] using World.cell?_spot (h 0 (by omega))
    subst hspot
    exact .inr ⟨b, off, rfl, fun i hi => by rw [← addPlain]; exact h i hi⟩

theorem wf_zero (k : IntKind) : (Lit.int k 0).wf = true := by cases k <;> decide

/-- A slice of integers that came in. -/
theorem view_ints {t e : TypeId} {k : IntKind} {a : Option Addr} {n c : Nat} {d : DataW H} {p : List MemPlace} (ht : P.underlying t = some (.slice e)) (he : P.underlying e = some (.int k)) (hc : P.cellsOf e = 1)
    (h : DataW.Trod enc P W 0 (fun _ => true) true t (.slice a n c) d p) : ∃ z : Nat → Int, Arr W a n (fun i => .int k (z i)) ∧ ∀ i, (Lit.int k (z i)).wf = true := by
  obtain ⟨fuel, hf⟩ := h
  rcases open_ints ht he hc hf with ⟨hcs, _⟩ | ⟨x, l, c', zs, hcs, _, hl, hm, hz, _, hcell, hwz⟩
  · simp [Value.cells] at hcs
    obtain ⟨rfl, rfl, rfl⟩ := hcs
    exact ⟨fun _ => 0, ⟨by omega, .inl rfl⟩, fun _ => wf_zero k⟩
  · simp [Value.cells] at hcs
    obtain ⟨rfl, rfl, rfl⟩ := hcs
    simp only [if_true] at hz
    unfold maxLen at hm
    refine ⟨fun i => zs.getD i 0, arr_of (by omega) fun i hi => hcell i (by omega), fun i => ?_⟩
    show (Lit.int k (zs.getD i 0)).wf = true
    by_cases hi : i < zs.length
    · have e : zs.getD i 0 = zs[i] := by simp [hi]
      rw [e]
      exact hwz _ (List.getElem_mem hi)
    · have e : zs.getD i 0 = 0 := by simp [List.getElem?_eq_none (by omega : zs.length ≤ i)]
      rw [e]
      exact wf_zero k

/-- A slice of bools that came in. -/
theorem view_bools {t e : TypeId} {a : Option Addr} {n c : Nat} {d : DataW H} {p : List MemPlace} (ht : P.underlying t = some (.slice e)) (he : P.underlying e = some .bool) (hc : P.cellsOf e = 1)
    (h : DataW.Trod enc P W 0 (fun _ => true) true t (.slice a n c) d p) : ∃ z : Nat → Bool, Arr W a n (fun i => .bool (z i)) := by
  obtain ⟨fuel, hf⟩ := h
  rcases open_bools ht he hc hf with ⟨hcs, _⟩ | ⟨x, l, c', B, hcs, _, hl, hm, _, hcell⟩
  · simp [Value.cells] at hcs
    obtain ⟨rfl, rfl, rfl⟩ := hcs
    exact ⟨fun _ => false, ⟨by omega, .inl rfl⟩⟩
  · simp [Value.cells] at hcs
    obtain ⟨rfl, rfl, rfl⟩ := hcs
    unfold maxLen at hm
    exact ⟨B, arr_of (by omega) fun i hi => hcell i (by omega)⟩

/-- A slice of slices of integers that came in. -/
theorem view_lists {t e q : TypeId} {a : Option Addr} {n c : Nat} {d : DataW H} {p : List MemPlace} (ht : P.underlying t = some (.slice e)) (he : P.underlying e = some (.slice q)) (hq : P.underlying q = some (.int .i64)) (ce : P.cellsOf e = 1) (cq : P.cellsOf q = 1)
    (h : DataW.Trod enc P W 0 (fun _ => true) true t (.slice a n c) d p) : ∃ (V : Nat → Value) (L : Nat → Nat) (Z : Nat → Nat → Int), Arr W a n V ∧ ∀ i, i < n → Ints 0 W (V i) (L i) (Z i) := by
  obtain ⟨fuel, hf⟩ := h
  rcases open_int_rows ht he hq ce cq hf with ⟨hcs, _⟩ | ⟨x, l, c', A, L, C, Z, hcs, _, hl, hm, _, hrow⟩
  · simp [Value.cells] at hcs
    obtain ⟨rfl, rfl, rfl⟩ := hcs
    exact ⟨fun _ => undef, fun _ => 0, fun _ _ => 0, ⟨by omega, .inl rfl⟩, fun i hi => by omega⟩
  · simp [Value.cells] at hcs
    obtain ⟨rfl, rfl, rfl⟩ := hcs
    unfold maxLen at hm
    refine ⟨fun i => .slice (A i) (L i) (C i), L, fun i t => (Z i).getD t 0, arr_of (by omega) fun i hi => (hrow i (by omega)).1, fun i hi => ?_⟩
    obtain ⟨_, h1, h2, h3, h4, h5, h6⟩ := hrow i (by omega)
    unfold maxLen at h2
    refine ⟨A i, C i, rfl, ?_, fun _ _ => Nat.zero_le _⟩
    cases hA : A i with
    | none =>
      have := h5 hA
      exact ⟨by omega, .inl (by omega)⟩
    | some a' => exact arr_of (by omega) fun t ht => (h6 a' hA).2 t (by omega)
end
end Go.Proofs.Qxb6600044a
