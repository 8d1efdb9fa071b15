import Derived.Test.Qxb6600159aD0
import Derived.Test.Qxb6600159aV
import Derived.Deep.Matrix
namespace Go.Proofs.Qxb6600159a
open Go.ChangeShapes Go.WideShapes Go.ChangeAt Go.RowKit Go.Deep
set_option linter.unusedVariables false

section
variable {H : Type} {enc : TypeId × Value → H} {P : Program} {W : World}

/-- A slice of slices of 32-bit integers that came in. -/
theorem view_ls {t e q : TypeId} {a : Option Addr} {n c : Nat} {d : DataW H} {p : List MemPlace} (ht : P.underlying t = some (.slice e)) (he : P.underlying e = some (.slice q)) (hq : P.underlying q = some (.int .i32)) (ce : P.cellsOf e = 1) (cq : P.cellsOf q = 1)
    (h : DataW.Trod enc P W 0 (fun _ => true) true t (.slice a n c) d p) : ∃ (V : Nat → Value) (Q : Nat → List Int), Ls W a n V Q := by
  obtain ⟨fuel, hf⟩ := h
  rcases open_int_rows ht he hq ce cq hf with ⟨hcs, _⟩ | ⟨x, l, c', A, L, C, Z, hcs, _, hl, hm, _, hrow⟩
  · simp [Value.cells] at hcs
    obtain ⟨rfl, rfl, rfl⟩ := hcs
    exact ⟨fun _ => undef, fun _ => [], ⟨by omega, .inl rfl⟩, fun i hi => by omega⟩
  · simp [Value.cells] at hcs
    obtain ⟨rfl, rfl, rfl⟩ := hcs
    unfold maxLen at hm
    refine ⟨fun i => .slice (A i) (L i) (C i), fun i => (Z i).take (L i), arr_of (by omega) fun i hi => (hrow i (by omega)).1, fun i hi => ?_⟩
    obtain ⟨_, h1, h2, h3, h4, h5, h6⟩ := hrow i (by omega)
    unfold maxLen at h2
    have hlen : ((Z i).take (L i)).length = L i := by rw [List.length_take]; omega
    refine ⟨A i, C i, by rw [hlen], by rw [hlen]; exact h1, ?_, fun _ _ => Nat.zero_le _⟩
    rw [hlen]
    cases hA : A i with
    | none =>
      have := h5 hA
      exact ⟨by omega, .inl (by omega)⟩
    | some a' =>
      refine arr_of (by omega) fun t ht => ?_
      rw [(h6 a' hA).2 t (by omega)]
      have : t < (Z i).length := by omega
      simp [ht, this]

/-- A slice of 32-bit integers that came in. -/
theorem view_q {t e : TypeId} {a : Option Addr} {n c : Nat} {d : DataW H} {p : List MemPlace} (ht : P.underlying t = some (.slice e)) (he : P.underlying e = some (.int .i32)) (hc : P.cellsOf e = 1)
    (h : DataW.Trod enc P W 0 (fun _ => true) true t (.slice a n c) d p) : ∃ q : List Int, q.length = n ∧ n ≤ c ∧ Arr W a n (fun j => .int .i32 (q.getD j 0)) := by
  obtain ⟨fuel, hf⟩ := h
  rcases open_ints ht he hc hf with ⟨hcs, _⟩ | ⟨x, l, c', zs, hcs, _, hl, hm, hz, _, hcell, hwz⟩
  · simp [Value.cells] at hcs
    obtain ⟨rfl, rfl, rfl⟩ := hcs
    exact ⟨[], rfl, Nat.le_refl _, ⟨by omega, .inl rfl⟩⟩
  · simp [Value.cells] at hcs
    obtain ⟨rfl, rfl, rfl⟩ := hcs
    simp only [if_true] at hz
    unfold maxLen at hm
    refine ⟨zs.take n, by rw [List.length_take]; omega, hl, arr_of (by omega) fun i hi => ?_⟩
    rw [hcell i (by omega)]
    have : i < zs.length := by omega
    simp [hi, this]
end
end Go.Proofs.Qxb6600159a
