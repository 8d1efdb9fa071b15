import Derived.Test.Qxb6600159aA1
import Derived.Maps.Views
namespace Go.Proofs.Qxb6600159a
open Go.RowKit Go.Maps
set_option linter.unusedVariables false

theorem mlaw9 : Keyed Try.prog 9 := string_keyed Try.underlying9
theorem mzero49 (w : World) : (zeroValue 49).run Try.prog w = .ok (.pointer none) w := by kernel_rfl

/-- How a pointer to a whole block reads. -/
def ptrElem (v : Value) : Option (DataW Unit × List MemPlace) :=
  match v with
  | .pointer (some a) => if a.off = 0 ∧ a.spot = none then some (.lit (.int .i64 (a.block : Int)), []) else none
  | _ => none
theorem ptrElem_mk (b : Nat) : ptrElem (.pointer (some ⟨b, 0, none⟩)) = some (.lit (.int .i64 (b : Int)), []) := by simp [ptrElem]
theorem ptrElem_inv {v : Value} {z : DataW Unit × List MemPlace} (h : ptrElem v = some z) : ∃ b : Nat, v = .pointer (some ⟨b, 0, none⟩) ∧ z = (.lit (.int .i64 (b : Int)), []) := by
  unfold ptrElem at h
  split at h
  · rename_i a
    split at h
    · rename_i hc
      obtain ⟨b, off, spot⟩ := a
      obtain ⟨h1, h2⟩ := hc
      simp at h1 h2
      subst h1 h2
      cases h
      exact ⟨b, rfl, rfl⟩
    · cases h
  · cases h

/-- Block b is a map from strings to pointers; g says to which block. -/
def OwnP (w : World) (b n : Nat) (g : List UInt8 → Option Nat) : Prop :=
  ∃ D : DataW Unit, IsMap D ∧ w.ownsMap Try.prog 9 ptrElem b n D ∧
    ∀ l, ∀ z, D.atKey (.string l) z = (match g l with | none => z | some p => .lit (.int .i64 (p : Int)))

theorem OwnP.made (w : World) : OwnP (w.alloc (.map #[] 0)) w.heap.size 0 (fun _ => none) :=
  ⟨.map [], isMap_empty, World.ownsMap_made w Try.prog 9 _, fun l z => rfl⟩
theorem OwnP.lt {w : World} {b n : Nat} {g : List UInt8 → Option Nat} (h : OwnP w b n g) : b < w.heap.size := by
  obtain ⟨D, _, h, _⟩ := h
  exact h.lt
theorem OwnP.block {w w' : World} {b n : Nat} {g : List UInt8 → Option Nat} (h : OwnP w b n g) (hb : w'.heap[b]? = w.heap[b]?) : OwnP w' b n g := by
  obtain ⟨D, h1, h2, h3⟩ := h
  obtain ⟨es, clock, hh, F⟩ := h2
  exact ⟨D, h1, ⟨es, clock, hb.trans hh, F⟩, h3⟩
theorem OwnP.mono {w : World} {b n n' : Nat} {g : List UInt8 → Option Nat} (h : OwnP w b n g) (hn : n ≤ n') : OwnP w b n' g := by
  obtain ⟨D, h1, h2, h3⟩ := h
  exact ⟨D, h1, h2.mono hn, h3⟩

theorem OwnP.look {w : World} {b n : Nat} {g : List UInt8 → Option Nat} (h : OwnP w b n g) {s : ByteArray} (hs : s.size ≤ maxLen) :
    (Instr.lookup 65 (.map (some b)) (.string s) false).run Try.prog w = .ok (match g s.data.toList with | none => .pointer none | some p => .pointer (some ⟨p, 0, none⟩)) w := by
  obtain ⟨D, h1, ⟨es, clock, hb, F, hsz, hD⟩, h3⟩ := h
  have hk := WideMaps.keyOf_string_mk Try.underlying9 hs
  rcases Maps.fit_look false mlaw9 Try.underlying65 (mzero49 w) hb F hk with ⟨hrun, _, hat⟩ | ⟨e0, y, _, _, hrun, hRv, hat, _⟩
  · rw [← hD] at hat
    have e1 := (h3 s.data.toList (.lit (.int .i64 0))).symm.trans (hat (.lit (.int .i64 0)))
    have e2 := (h3 s.data.toList (.lit (.int .i64 1))).symm.trans (hat (.lit (.int .i64 1)))
    cases hg : g s.data.toList with
    | none => exact hrun
    | some p =>
      rw [hg] at e1 e2
      simp at e1 e2
      omega
  · rw [← hD] at hat
    obtain ⟨a, hv, hy⟩ := ptrElem_inv hRv
    have e1 := (h3 s.data.toList (.lit (.int .i64 0))).symm.trans (hat (.lit (.int .i64 0)))
    have e2 := (h3 s.data.toList (.lit (.int .i64 1))).symm.trans (hat (.lit (.int .i64 1)))
    rw [hy] at e1 e2
    cases hg : g s.data.toList with
    | none =>
      rw [hg] at e1 e2
      simp at e1 e2
      omega
    | some p =>
      rw [hg] at e1
      simp at e1
      have e1' : p = a := by omega
      subst e1'
      rw [hrun, hv]
      rfl

/-- The map, with one more. -/
def pPut (g : List UInt8 → Option Nat) (k : List UInt8) (p : Nat) (x : List UInt8) : Option Nat := if x = k then some p else g x

theorem OwnP.store {w : World} {b n : Nat} {g : List UInt8 → Option Nat} (h : OwnP w b n g) (hn : n < 100000) {s : ByteArray} (hs : s.size ≤ maxLen) (p : Nat) :
    ∃ w', (Instr.mapUpdate 65 (.map (some b)) (.string s) (.pointer (some ⟨p, 0, none⟩))).run Try.prog w = .ok () w' ∧ OwnP w' b (n + 1) (pPut g s.data.toList p) ∧ w.grownBy w' (some b) := by
  obtain ⟨D, h1, h2, h3⟩ := h
  have hk := WideMaps.keyOf_string_mk Try.underlying9 hs
  obtain ⟨w', hr, h4, h5⟩ := h2.update mlaw9 Try.underlying65 (by unfold maxLen; omega) hk (ptrElem_mk p)
  refine ⟨w', hr, ⟨_, h1.put _ _, h4, ?_⟩, h5⟩
  intro x z
  by_cases e : x = s.data.toList
  · subst e
    rw [atKey_put_same h1 (mlaw9.key hk)]
    simp [pPut]
  · rw [atKey_put_other (by simpa using e), h3 x z]
    simp [pPut, e]

/-- Where the entry of a kind stands. -/
def ptrOf (X : Nat) (g : Nat × List UInt8 → Option Nat) (c : Nat × List UInt8) : Option Addr := if c.1 = 0 then some ⟨X, 2, none⟩ else (g c).map fun b => ⟨b, 0, none⟩
def gAdd (g : Nat × List UInt8 → Option Nat) (c : Nat × List UInt8) (p : Nat) (x : Nat × List UInt8) : Option Nat := if x = c then some p else g x

/-- The index at block X with its two maps. -/
structure Idx (w : World) (X M1 M2 n : Nat) (g : Nat × List UInt8 → Option Nat) : Prop where
  x0 : w.cell? ⟨X, 0, none⟩ = some (.map (some M1))
  x1 : w.cell? ⟨X, 1, none⟩ = some (.map (some M2))
  m1 : OwnP w M1 n (fun l => g (1, l))
  m2 : OwnP w M2 n (fun l => g (2, l))
  inj : ∀ q q' b, g q = some b → g q' = some b → q = q'
  new : ∀ q b, g q = some b → b ≠ X ∧ b < w.heap.size
  ne : M1 ≠ M2 ∧ X ≠ M1 ∧ X ≠ M2

/-- Only the two maps have turned, and new blocks. -/
structure Keeps (M1 M2 : Nat) (w w' : World) : Prop where
  os : w'.os = w.os
  tape : w'.tape = w.tape
  output : w'.output = w.output
  size : w.heap.size ≤ w'.heap.size
  block : ∀ k, k < w.heap.size → k ≠ M1 → k ≠ M2 → w'.heap[k]? = w.heap[k]?

theorem Keeps.below {M1 M2 B : Nat} {w0 w w' : World} (h : Keeps M1 M2 w w') (hb : Below B w0 w) (hB : B ≤ w.heap.size) (h1 : B ≤ M1) (h2 : B ≤ M2) : Below B w0 w' :=
  ⟨h.os.trans hb.os, h.tape.trans hb.tape, h.output.trans hb.output, Nat.le_trans hb.size h.size, fun k hk => (h.block k (by omega) (by omega) (by omega)).trans (hb.block k hk)⟩

theorem Idx.kept {w w' : World} {X M1 M2 n : Nat} {g : Nat × List UInt8 → Option Nat} (h : Idx w X M1 M2 n g) (hs : w.heap.size ≤ w'.heap.size) (e0 : w'.heap[X]? = w.heap[X]?) (e1 : w'.heap[M1]? = w.heap[M1]?) (e2 : w'.heap[M2]? = w.heap[M2]?) : Idx w' X M1 M2 n g :=
  ⟨(World.cell?_of_block (a := ⟨X, 0, none⟩) e0).trans h.x0, (World.cell?_of_block (a := ⟨X, 1, none⟩) e0).trans h.x1, h.m1.block e1, h.m2.block e2, h.inj, fun q b hq => ⟨(h.new q b hq).1, Nat.lt_of_lt_of_le (h.new q b hq).2 hs⟩, h.ne⟩

/-- The entries' blocks hold cells, none frozen. -/
def Boxes (w : World) (X : Nat) (g : Nat × List UInt8 → Option Nat) : Prop :=
  (∃ c t, w.heap[X]? = some (.cells c t (0, 0))) ∧ ∀ q b, g q = some b → ∃ c t, w.heap[b]? = some (.cells c t (0, 0))

/-- What rulesOf does at a host whose kind it has met. -/
def HitPost (w : World) (a : Addr) (e : Ending) (w' : World) : Prop := e = .returned (.pointer (some a)) ∧ w' = w
/-- .. and at a new one. -/
def MissPost (w : World) (X M1 M2 n : Nat) (g : Nat × List UInt8 → Option Nat) (c : Nat × List UInt8) (e : Ending) (w' : World) : Prop :=
  e = .returned (.pointer (some ⟨w.heap.size, 0, none⟩)) ∧ Idx w' X M1 M2 (n + 1) (gAdd g c w.heap.size) ∧ Keeps M1 M2 w w' ∧ (Boxes w X g → Boxes w' X (gAdd g c w.heap.size))

theorem cls_pre {l : List UInt8} (h : l ≠ []) (hp : Lib.hasPrefix l [42, 46] = true) : cls l = (2, Lib.trimPrefix l [42, 46]) := by
  match l, h, hp with
  | [a], _, hp => simp [Lib.hasPrefix] at hp
  | a :: b :: r, _, hp =>
    have hp2 := hp
    simp [Lib.hasPrefix] at hp
    obtain ⟨rfl, rfl⟩ := hp
    simp [Lib.trimPrefix, hp2, cls]

theorem cls_nopre {l : List UInt8} (h : l ≠ []) (hp : Lib.hasPrefix l [42, 46] = false) : cls l = (1, Lib.trimPrefix l [42, 46]) ∧ Lib.trimPrefix l [42, 46] = l := by
  have e : Lib.trimPrefix l [42, 46] = l := by simp [Lib.trimPrefix, hp]
  rw [e]
  refine ⟨?_, rfl⟩
  unfold cls
  split
  · exact absurd rfl h
  · simp [Lib.hasPrefix] at hp
  · rfl
end Go.Proofs.Qxb6600159a
