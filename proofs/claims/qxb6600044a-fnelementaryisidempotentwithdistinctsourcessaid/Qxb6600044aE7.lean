import Derived.Test.Qxb6600044aE6
import Derived.Maps.Views
namespace Go.Proofs.Qxb6600044a
open Go.RowKit Go.Maps
set_option linter.unusedVariables false

theorem mlaw21 : Keyed Try.prog 21 := int_keyed Try.underlying21
theorem mzero3 (w : World) : (zeroValue 3).run Try.prog w = .ok (.int .i64 0) w := by kernel_rfl

theorem make79 (w : World) (n : Int) : (Instr.makeMap 79 (some (.int .i64 n))).run Try.prog w = .ok (.map (some w.heap.size)) (w.alloc (.map #[] 0)) := by
  simp [Instr.makeMap, run_underlying Try.underlying79, asInt, asIntOf, Result.andThen]

/-- Block b is a map from numbers to places; g says where each stands. -/
def OwnM (w : World) (b n : Nat) (g : Int → Option Nat) : Prop :=
  ∃ D : DataW Unit, IsMap D ∧ w.ownsMap Try.prog 21 (plainElem Try.prog 3) b n D ∧
    ∀ f, (Lit.int .i32 f).wf = true → ∀ z, D.atKey (.int .i32 f) z = (match g f with | none => z | some p => .lit (.int .i64 (p : Int)))

theorem OwnM.made (w : World) : OwnM (w.alloc (.map #[] 0)) w.heap.size 0 (fun _ => none) :=
  ⟨.map [], isMap_empty, World.ownsMap_made w Try.prog 21 _, fun f _ z => rfl⟩

theorem OwnM.lt {w : World} {b n : Nat} {g : Int → Option Nat} (h : OwnM w b n g) : b < w.heap.size := by
  obtain ⟨D, _, h, _⟩ := h
  exact h.lt

theorem OwnM.alloc {w : World} {b n : Nat} {g : Int → Option Nat} (h : OwnM w b n g) (o : Obj) : OwnM (w.alloc o) b n g := by
  obtain ⟨D, h1, h2, h3⟩ := h
  exact ⟨D, h1, h2.alloc o, h3⟩

theorem OwnM.setCell {w : World} {b n : Nat} {g : Int → Option Nat} (h : OwnM w b n g) {p : Addr} (hp : p.block ≠ b) (u : Value) : OwnM (w.setCell p u) b n g := by
  obtain ⟨D, h1, h2, h3⟩ := h
  refine ⟨D, h1, ?_, h3⟩
  obtain ⟨es, clock, hb, F⟩ := h2
  exact ⟨es, clock, by rw [Below.heap_setCell w p u b (Ne.symm hp)]; exact hb, F⟩

theorem OwnM.look {w : World} {b n : Nat} {g : Int → Option Nat} (h : OwnM w b n g) {f : Int} (hf : (Lit.int .i32 f).wf = true) :
    (Instr.lookup 79 (.map (some b)) (.int .i32 f) true).run Try.prog w = .ok (match g f with | none => .tuple #[.int .i64 0, .bool false] | some p => .tuple #[.int .i64 (p : Int), .bool true]) w := by
  obtain ⟨D, h1, ⟨es, clock, hb, F, hs, hD⟩, h3⟩ := h
  have hk := keyOf_int_mk Try.underlying21 hf
  rcases Maps.fit_look true mlaw21 Try.underlying79 (mzero3 w) hb F hk with ⟨hrun, _, hat⟩ | ⟨e0, y, _, _, hrun, hRv, hat, _⟩
  · rw [← hD] at hat
    have e1 := (h3 f hf (.lit (.int .i64 0))).symm.trans (hat (.lit (.int .i64 0)))
    have e2 := (h3 f hf (.lit (.int .i64 1))).symm.trans (hat (.lit (.int .i64 1)))
    cases hg : g f with
    | none => exact hrun
    | some p =>
      rw [hg] at e1 e2
      simp at e1 e2
      omega
  · rw [← hD] at hat
    obtain ⟨a, hv, hy, _⟩ := plainElem_int_inv Try.underlying3 hRv
    have e1 := (h3 f hf (.lit (.int .i64 0))).symm.trans (hat (.lit (.int .i64 0)))
    have e2 := (h3 f hf (.lit (.int .i64 1))).symm.trans (hat (.lit (.int .i64 1)))
    rw [hy] at e1 e2
    cases hg : g f with
    | none =>
      rw [hg] at e1 e2
      simp at e1 e2
      omega
    | some p =>
      rw [hg] at e1
      simp at e1
      rw [hrun, hv, ← e1]
      rfl

/-- The places, with one more. -/
def gPut (g : Int → Option Nat) (f : Int) (p : Nat) (x : Int) : Option Nat := if x = f then some p else g x

theorem OwnM.store {w : World} {b n : Nat} {g : Int → Option Nat} (h : OwnM w b n g) (hn : n < 4097) {f : Int} (hf : (Lit.int .i32 f).wf = true) (p : Nat) (hp : p ≤ 4096) :
    ∃ w', (Instr.mapUpdate 79 (.map (some b)) (.int .i32 f) (.int .i64 (p : Int))).run Try.prog w = .ok () w' ∧ OwnM w' b (n + 1) (gPut g f p) ∧ w.grownBy w' (some b) := by
  obtain ⟨D, h1, h2, h3⟩ := h
  have hk := keyOf_int_mk Try.underlying21 hf
  have hw : (Lit.int .i64 (p : Int)).wf = true := by
    have h1 : IntKind.i64.min = -9223372036854775808 := rfl
    have h2 : IntKind.i64.max = 9223372036854775807 := rfl
    simp [Lit.wf, h1, h2]
    omega
  obtain ⟨w', hr, h4, h5⟩ := h2.update mlaw21 Try.underlying79 (by unfold maxLen; omega) hk (plainElem_int Try.underlying3 hw)
  refine ⟨w', hr, ⟨_, h1.put _ _, h4, ?_⟩, h5⟩
  intro x hx z
  by_cases e : x = f
  · subst e
    rw [atKey_put_same h1 (mlaw21.key hk)]
    simp [gPut]
  · rw [atKey_put_other (by simpa using e), h3 x hx z]
    simp [gPut, e]
end Go.Proofs.Qxb6600044a
