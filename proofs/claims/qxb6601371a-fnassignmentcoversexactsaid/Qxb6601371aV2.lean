import Derived.Test.Qxb6601371aV
import Derived.Test.Qxb6601371aD1
import Derived.Deep.Slices
import Derived.Deep.Strs
import Derived.Lib.SmallJoins
namespace Go.Proofs.Qxb6601371a
open Go.ChangeShapes Go.WideShapes Go.ChangeAt Go.RowKit Go.Deep
set_option linter.unusedVariables false

section
variable {H : Type} {enc : TypeId × Value → H} {P : Program} {W : World}

theorem array6 {α : Type} {cs : Array α} (h : cs.size = 6) : ∃ c0 c1 c2 c3 c4 c5, cs = #[c0, c1, c2, c3, c4, c5] := by
  obtain ⟨l⟩ := cs
  match l, h with
  | [c0, c1, c2, c3, c4, c5], _ => exact ⟨c0, c1, c2, c3, c4, c5, rfl⟩

theorem open6 {r : Reach} {b0 : Nat} {t : TypeId} {f0 f1 f2 f3 f4 f5 : Field} {v : Value} {d : DataW H} {p : List MemPlace} (hs : P.underlying t = some (.struct #[f0, f1, f2, f3, f4, f5])) (hone : oneCellFields P #[f0, f1, f2, f3, f4, f5] = true) (hC : P.cellsOf t = 6)
    (hv : Value.okWide P W r b0 t v) (h : DataW.Trod enc P W 0 (fun _ => true) true t v d p) :
    ∃ (v0 v1 v2 v3 v4 v5 : Value) (y0 y1 y2 y3 y4 y5 : DataW H × List MemPlace) (n : Nat), v = .agg #[v0, v1, v2, v3, v4, v5] ∧ DataW.trod enc P W 0 (fun _ => true) true n f0.type [v0] = some y0 ∧ DataW.trod enc P W 0 (fun _ => true) true n f1.type [v1] = some y1 ∧ DataW.trod enc P W 0 (fun _ => true) true n f2.type [v2] = some y2 ∧ DataW.trod enc P W 0 (fun _ => true) true n f3.type [v3] = some y3 ∧ DataW.trod enc P W 0 (fun _ => true) true n f4.type [v4] = some y4 ∧ DataW.trod enc P W 0 (fun _ => true) true n f5.type [v5] = some y5 := by
  obtain ⟨cs, rfl, hsz⟩ := okWide_struct hs hv
  obtain ⟨c0, c1, c2, c3, c4, c5, rfl⟩ := array6 (hsz.trans hC)
  obtain ⟨fuel, hf⟩ := h
  obtain ⟨xs, n, _, hx, hl, hlen, hg⟩ := DataW.trod_struct hs hf
  obtain ⟨o0, k0⟩ := hone_of hone 0 f0 rfl
  obtain ⟨o1, k1⟩ := hone_of hone 1 f1 rfl
  obtain ⟨o2, k2⟩ := hone_of hone 2 f2 rfl
  obtain ⟨o3, k3⟩ := hone_of hone 3 f3 rfl
  obtain ⟨o4, k4⟩ := hone_of hone 4 f4 rfl
  obtain ⟨o5, k5⟩ := hone_of hone 5 f5 rfl
  match xs, hlen with
  | [y0, y1, y2, y3, y4, y5], _ => exact ⟨c0, c1, c2, c3, c4, c5, y0, y1, y2, y3, y4, y5, n, rfl, by simpa [Value.cells, o0, k0] using hg 0 f0 rfl, by simpa [Value.cells, o1, k1] using hg 1 f1 rfl, by simpa [Value.cells, o2, k2] using hg 2 f2 rfl, by simpa [Value.cells, o3, k3] using hg 3 f3 rfl, by simpa [Value.cells, o4, k4] using hg 4 f4 rfl, by simpa [Value.cells, o5, k5] using hg 5 f5 rfl⟩

/-- Choices that came in: five integers and a bool. -/
theorem view_choices {r : Reach} {b0 : Nat} {t : TypeId} {f0 f1 f2 f3 f4 f5 : Field} {v : Value} {d : DataW H} {p : List MemPlace} (hs : P.underlying t = some (.struct #[f0, f1, f2, f3, f4, f5])) (hone : oneCellFields P #[f0, f1, f2, f3, f4, f5] = true) (hC : P.cellsOf t = 6)
    (t0 : P.underlying f0.type = some (.int .i64)) (t1 : P.underlying f1.type = some (.int .i64)) (t2 : P.underlying f2.type = some (.int .i64)) (t3 : P.underlying f3.type = some (.int .i64)) (t4 : P.underlying f4.type = some (.int .i64)) (t5 : P.underlying f5.type = some .bool)
    (hv : Value.okWide P W r b0 t v) (h : DataW.Trod enc P W 0 (fun _ => true) true t v d p) :
    ∃ (z0 z1 z2 z3 z4 : Int) (b5 : Bool), v = .agg #[.int .i64 z0, .int .i64 z1, .int .i64 z2, .int .i64 z3, .int .i64 z4, .bool b5] := by
  obtain ⟨v0, v1, v2, v3, v4, v5, y0, y1, y2, y3, y4, y5, n, rfl, g0, g1, g2, g3, g4, g5⟩ := open6 hs hone hC hv h
  obtain ⟨z0, e0, _, _⟩ := DataW.trod_int t0 g0
  obtain ⟨z1, e1, _, _⟩ := DataW.trod_int t1 g1
  obtain ⟨z2, e2, _, _⟩ := DataW.trod_int t2 g2
  obtain ⟨z3, e3, _, _⟩ := DataW.trod_int t3 g3
  obtain ⟨z4, e4, _, _⟩ := DataW.trod_int t4 g4
  obtain ⟨b5, e5, _⟩ := DataW.trod_bool t5 g5
  simp only [List.cons.injEq, and_true] at e0 e1 e2 e3 e4 e5
  subst e0 e1 e2 e3 e4 e5
  exact ⟨z0, z1, z2, z3, z4, b5, rfl⟩

/-- A read that came in. -/
theorem view_read {r : Reach} {b0 : Nat} {t : TypeId} {f0 f1 f2 f3 f4 f5 : Field} {v : Value} {d : DataW H} {p : List MemPlace} (hs : P.underlying t = some (.struct #[f0, f1, f2, f3, f4, f5])) (hone : oneCellFields P #[f0, f1, f2, f3, f4, f5] = true) (hC : P.cellsOf t = 6)
    (t0 : P.underlying f0.type = some .bool) (t1 : P.underlying f1.type = some (.int .i64)) (t2 : P.underlying f2.type = some (.int .i64)) (t3 : P.underlying f3.type = some (.int .i64)) (t4 : P.underlying f4.type = some .bool) (t5 : P.underlying f5.type = some (.int .i64))
    (hv : Value.okWide P W r b0 t v) (h : DataW.Trod enc P W 0 (fun _ => true) true t v d p) :
    ∃ (b0 : Bool) (z1 z2 z3 : Int) (b4 : Bool) (z5 : Int), v = .agg #[.bool b0, .int .i64 z1, .int .i64 z2, .int .i64 z3, .bool b4, .int .i64 z5] := by
  obtain ⟨v0, v1, v2, v3, v4, v5, y0, y1, y2, y3, y4, y5, n, rfl, g0, g1, g2, g3, g4, g5⟩ := open6 hs hone hC hv h
  obtain ⟨z0, e0, _⟩ := DataW.trod_bool t0 g0
  obtain ⟨z1, e1, _, _⟩ := DataW.trod_int t1 g1
  obtain ⟨z2, e2, _, _⟩ := DataW.trod_int t2 g2
  obtain ⟨z3, e3, _, _⟩ := DataW.trod_int t3 g3
  obtain ⟨z4, e4, _⟩ := DataW.trod_bool t4 g4
  obtain ⟨z5, e5, _, _⟩ := DataW.trod_int t5 g5
  simp only [List.cons.injEq, and_true] at e0 e1 e2 e3 e4 e5
  subst e0 e1 e2 e3 e4 e5
  exact ⟨z0, z1, z2, z3, z4, z5, rfl⟩

theorem add_add (a : Addr) (i j : Nat) (h : a.spot = none) : (a.add i).add j = a.add (i + j) := by
  obtain ⟨b, off, spot⟩ := a
  simp at h
  subst h
  rw [addPlain, addPlain, addPlain, Nat.add_assoc]

/-- A slice of clusters that came in. -/
theorem view_cls {t e : TypeId} {f0 f1 f2 : Field} {a : Option Addr} {n c : Nat} {d : DataW H} {p : List MemPlace} (ht : P.underlying t = some (.slice e)) (he : P.underlying e = some (.struct #[f0, f1, f2])) (hc : P.cellsOf e = 3)
    (t0 : P.underlying f0.type = some (.int .i64)) (t1 : P.underlying f1.type = some (.int .i64)) (t2 : P.underlying f2.type = some (.int .i64))
    (o0 : f0.offset = 0) (o1 : f1.offset = 1) (o2 : f2.offset = 2)
    (k0 : P.cellsOf f0.type = 1) (k1 : P.cellsOf f1.type = 1) (k2 : P.cellsOf f2.type = 1)
    (h : DataW.Trod enc P W 0 (fun _ => true) true t (.slice a n c) d p) : ∃ X Y Z : Nat → Int, n ≤ 9223372036854775807 ∧ (n ≤ 65536 → Cls W a n X Y Z) := by
  obtain ⟨fuel, hf⟩ := h
  rcases open_slice ht hf with ⟨hcs, _⟩ | ⟨x, l, c', m, fu, D, Pl, hcs, _, hl, hm, hmm, _, hx⟩
  · simp [Value.cells] at hcs
    obtain ⟨rfl, rfl, rfl⟩ := hcs
    exact ⟨fun _ => 0, fun _ => 0, fun _ => 0, by omega, fun _ => ⟨by omega, .inl rfl⟩⟩
  · simp [Value.cells] at hcs
    obtain ⟨rfl, rfl, rfl⟩ := hcs
    simp only [if_true] at hmm
    unfold maxLen at hm
    rw [hc] at hx
    obtain ⟨A, hA⟩ := choose_lt (α := Int × Int × Int) (n := n) (p := fun i y => W.cell? ((x.add (i * 3)).add 0) = some (.int .i64 y.1) ∧ W.cell? ((x.add (i * 3)).add 1) = some (.int .i64 y.2.1) ∧ W.cell? ((x.add (i * 3)).add 2) = some (.int .i64 y.2.2)) (fun i hi => by
      obtain ⟨cs', h1, h2⟩ := hx i (by omega)
      obtain ⟨_, hlen, hcell⟩ := World.cells?_some h1
      obtain ⟨y0, y1, y2, q, _, _, g0, g1, g2⟩ := trod_struct3 he h2
      obtain ⟨u0, u1, u2, rfl⟩ : ∃ u0 u1 u2, cs' = [u0, u1, u2] := by
        match cs', hlen with
        | [u0, u1, u2], _ => exact ⟨u0, u1, u2, rfl⟩
      rw [o0, k0] at g0
      rw [o1, k1] at g1
      rw [o2, k2] at g2
      obtain ⟨z0, e0, _, w0⟩ := DataW.trod_int t0 g0
      obtain ⟨z1, e1, _, _⟩ := DataW.trod_int t1 g1
      obtain ⟨z2, e2, _, _⟩ := DataW.trod_int t2 g2
      simp at e0 e1 e2
      subst e0 e1 e2
      exact ⟨⟨z0, z1, z2⟩, hcell 0 (by omega), hcell 1 (by omega), hcell 2 (by omega)⟩)
    refine ⟨fun i => (A i).1, fun i => (A i).2.1, fun i => (A i).2.2, by omega, fun hn => ?_⟩
    by_cases h0 : n = 0
    · subst h0
      exact ⟨by omega, .inl rfl⟩
    have hsp : x.spot = none := by
      have := World.cell?_spot (hA 0 (by omega)).1
      simpa [Addr.add] using this
    refine arr_of (by omega) fun i hi => ?_
    have hi3 : i / 3 < n := by omega
    obtain ⟨q0, q1, q2⟩ := hA (i / 3) hi3
    rw [add_add x _ _ hsp] at q0 q1 q2
    have h3 : i % 3 = 0 ∨ i % 3 = 1 ∨ i % 3 = 2 := by omega
    rcases h3 with e | e | e
    · rw [show i / 3 * 3 + 0 = i by omega] at q0
      rw [q0]; simp [clF, e]
    · rw [show i / 3 * 3 + 1 = i by omega] at q1
      rw [q1]; simp [clF, e]
    · rw [show i / 3 * 3 + 2 = i by omega] at q2
      rw [q2]; simp [clF, e]
end
end Go.Proofs.Qxb6601371a
