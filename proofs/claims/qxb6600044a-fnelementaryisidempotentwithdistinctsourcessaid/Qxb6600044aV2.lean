import Derived.Test.Qxb6600044aF1
import Derived.ProofKit
import Derived.ChangeOld
import Derived.Deep.Slices
import Derived.Lib.SmallJoins
namespace Go.Proofs.Qxb6600044a
open Go.ChangeShapes Go.WideShapes Go.ChangeAt Go.RowKit Go.Deep
set_option linter.unusedVariables false

section
variable {H : Type} {enc : TypeId × Value → H} {P : Program} {W : World}

theorem arr_at {W : World} {a : Addr} {n : Nat} {f : Nat → Value} (hn : n ≤ 9223372036854775807) (h : ∀ i, i < n → W.cell? (a.add i) = some (f i)) : Arr W (some a) n f := by
  refine ⟨hn, ?_⟩
  by_cases h0 : n = 0
  · exact .inl h0
  · obtain ⟨b, off, spot⟩ := a
    have hspot : spot = none := by simpa [Addr.add] using World.cell?_spot (h 0 (by omega))
    subst hspot
    exact .inr ⟨b, off, rfl, fun i hi => by rw [← addArc]; exact h i hi⟩

theorem add_add (a : Addr) (i j : Nat) (h : a.spot = none) : (a.add i).add j = a.add (i + j) := by
  obtain ⟨b, off, spot⟩ := a
  simp at h
  subst h
  rw [addArc, addArc, addArc, Nat.add_assoc]

/-- A slice of arcs that came in. -/
theorem view_arcs {t e : TypeId} {f0 f1 f2 f3 : Field} {a : Option Addr} {n c : Nat} {d : DataW H} {p : List MemPlace} (ht : P.underlying t = some (.slice e)) (he : P.underlying e = some (.struct #[f0, f1, f2, f3])) (hc : P.cellsOf e = 4)
    (t0 : P.underlying f0.type = some (.int .i32)) (t1 : P.underlying f1.type = some (.int .i32)) (t2 : P.underlying f2.type = some (.int .i32)) (t3 : P.underlying f3.type = some (.int .i64))
    (o0 : f0.offset = 0) (o1 : f1.offset = 1) (o2 : f2.offset = 2) (o3 : f3.offset = 3)
    (k0 : P.cellsOf f0.type = 1) (k1 : P.cellsOf f1.type = 1) (k2 : P.cellsOf f2.type = 1) (k3 : P.cellsOf f3.type = 1)
    (h : DataW.Trod enc P W 0 (fun _ => true) true t (.slice a n c) d p) : ∃ xs : List Arc, xs.length = n ∧ n ≤ 9223372036854775807 ∧ (n ≤ 1048576 → Arcs W a xs) ∧ FromsOk xs := by
  obtain ⟨fuel, hf⟩ := h
  rcases open_slice ht hf with ⟨hcs, _⟩ | ⟨x, l, c', m, fu, D, Pl, hcs, _, hl, hm, hmm, _, hx⟩
  · simp [Value.cells] at hcs
    obtain ⟨rfl, rfl, rfl⟩ := hcs
    exact ⟨[], rfl, by omega, fun _ => ⟨by simp, .inl rfl⟩, fun x hx => by cases hx⟩
  · simp [Value.cells] at hcs
    obtain ⟨rfl, rfl, rfl⟩ := hcs
    simp only [if_true] at hmm
    unfold maxLen at hm
    rw [hc] at hx
    have : Inhabited Arc := ⟨arcZ⟩
    obtain ⟨A, hA⟩ := choose_lt (α := Arc) (n := n) (p := fun i y => (∀ j, j < 4 → W.cell? ((x.add (i * 4)).add j) = some (arcCell y j)) ∧ (Lit.int .i32 y.f).wf = true) (fun i hi => by
      obtain ⟨cs', h1, h2⟩ := hx i (by omega)
      obtain ⟨_, hlen, hcell⟩ := World.cells?_some h1
      obtain ⟨y0, y1, y2, y3, q, _, _, g0, g1, g2, g3⟩ := Go.Joins.trod_struct4 he h2
      obtain ⟨u0, u1, u2, u3, rfl⟩ : ∃ u0 u1 u2 u3, cs' = [u0, u1, u2, u3] := by
        match cs', hlen with
        | [u0, u1, u2, u3], _ => exact ⟨u0, u1, u2, u3, rfl⟩
      rw [o0, k0] at g0
      rw [o1, k1] at g1
      rw [o2, k2] at g2
      rw [o3, k3] at g3
      obtain ⟨z0, e0, _, w0⟩ := DataW.trod_int t0 g0
      obtain ⟨z1, e1, _, _⟩ := DataW.trod_int t1 g1
      obtain ⟨z2, e2, _, _⟩ := DataW.trod_int t2 g2
      obtain ⟨z3, e3, _, _⟩ := DataW.trod_int t3 g3
      simp at e0 e1 e2 e3
      subst e0 e1 e2 e3
      refine ⟨⟨z0, z1, z2, z3⟩, fun j hj => ?_, w0⟩
      rw [hcell j hj]
      have hj4 : j = 0 ∨ j = 1 ∨ j = 2 ∨ j = 3 := by omega
      rcases hj4 with rfl | rfl | rfl | rfl <;> rfl)
    refine ⟨(List.range n).map A, by simp, by omega, fun hn => ?_, fun y hy => ?_⟩
    · by_cases h0 : n = 0
      · subst h0
        exact ⟨by simp, .inl (by simp)⟩
      have hsp : x.spot = none := by
        have := World.cell?_spot ((hA 0 (by omega)).1 0 (by omega))
        simpa [Addr.add] using this
      unfold Arcs
      rw [List.length_map, List.length_range]
      refine arr_at (by omega) fun i hi => ?_
      have hi4 : i / 4 < n := by omega
      have := (hA (i / 4) hi4).1 (i % 4) (by omega)
      rw [add_add x _ _ hsp] at this
      have e1 : i / 4 * 4 + i % 4 = i := by omega
      rw [e1] at this
      rw [this]
      simp [arcAt, hi4]
    · obtain ⟨i, hi, rfl⟩ := List.mem_map.1 hy
      exact (hA i (List.mem_range.1 hi)).2
end
end Go.Proofs.Qxb6600044a
