import Derived.Test.Qxb6600159aA0
import Derived.ProofKit
import Derived.ChangeOld
import Derived.Deep.Strs
namespace Go.Proofs.Qxb6600159a
open Go.ChangeShapes Go.WideShapes Go.ChangeAt Go.RowKit Go.Deep
set_option linter.unusedVariables false

section
variable {H : Type} {enc : TypeId × Value → H} {P : Program} {W : World}

theorem arr_of {W : World} {a : Addr} {n : Nat} {f : Nat → Value} (hn : n ≤ 9223372036854775807) (h : ∀ i, i < n → W.cell? (a.add i) = some (f i)) : Arr W (some a) n f := by
  refine ⟨hn, ?_⟩
  by_cases h0 : n = 0
  · exact .inl h0
  · obtain ⟨b, off, spot⟩ := a
    have hspot : spot = none := by simpa [Addr.add] using World.cell?_spot (h 0 (by omega))
    subst hspot
    exact .inr ⟨b, off, rfl, fun i hi => by rw [← addPlain]; exact h i hi⟩

/-- A slice of strings that came in. -/
theorem view_strings {t e : TypeId} {a : Option Addr} {n c : Nat} {d : DataW H} {p : List MemPlace} (ht : P.underlying t = some (.slice e)) (he : P.underlying e = some .string) (hc : P.cellsOf e = 1)
    (h : DataW.Trod enc P W 0 (fun _ => true) true t (.slice a n c) d p) : ∃ S : Nat → ByteArray, Arr W a n (fun i => .string (S i)) ∧ ∀ i, (S i).size ≤ maxLen := by
  obtain ⟨fuel, hf⟩ := h
  rcases open_slice1 ht hc hf with ⟨hcs, _⟩ | ⟨x, l, c', m, q, V, D, Pl, hcs, _, hl, hm, hmm, _, hx⟩
  · simp [Value.cells] at hcs
    obtain ⟨rfl, rfl, rfl⟩ := hcs
    exact ⟨fun _ => ⟨#[]⟩, ⟨by omega, .inl rfl⟩, fun _ => by show 0 ≤ maxLen; exact Nat.zero_le _⟩
  · simp [Value.cells] at hcs
    obtain ⟨rfl, rfl, rfl⟩ := hcs
    simp only [if_true] at hmm
    have hm' := hm
    unfold maxLen at hm'
    have : Inhabited ByteArray := ⟨⟨#[]⟩⟩
    obtain ⟨S, hS⟩ := choose_lt (α := ByteArray) (n := n) (p := fun i s => V i = .string s ∧ s.size ≤ maxLen) (fun i hi => by
      obtain ⟨s, e1, _, e2⟩ := DataW.trod_string he (hx i (by omega)).2
      exact ⟨s, by simpa using e1, e2⟩)
    refine ⟨fun i => if i < n then S i else ⟨#[]⟩, arr_of (by omega) fun i hi => ?_, fun i => ?_⟩
    · rw [(hx i (by omega)).1, (hS i hi).1]
      simp [hi]
    · show (if i < n then S i else ⟨#[]⟩).size ≤ maxLen
      split
      · rename_i hi
        exact (hS i hi).2
      · exact Nat.zero_le _
end
end Go.Proofs.Qxb6600159a
