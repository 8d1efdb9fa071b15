import Derived.Test.Qxb6600159aD5
namespace Go.Proofs.Qxb6600159a
open Go.RowKit
set_option linter.unusedVariables false

/-- Where the t-th part of the lists begins. -/
def Kt (T t : Nat) : Nat := if t = 0 then 0 else if t = 1 then min T 16 else T
theorem Kt0 (T : Nat) : Kt T 0 = 0 := rfl
theorem Kt2 (T : Nat) : Kt T 2 = T := rfl
/-- The t-th part: the inline lists, the others. -/
def partV (X T : Nat) (mv : Value) (t : Nat) : Value := if t = 0 then .slice (some ⟨X, 0, none⟩) (min T 16) 16 else mv

theorem own_set {w : World} {B t n cap g j : Nat} {xs : List Value} (h : w.ownsRow B t 1 (.slice (some ⟨g, 0, none⟩) n cap) n xs) (v : Value) : (w.setCell ⟨g, j, none⟩ v).ownsRow B t 1 (.slice (some ⟨g, 0, none⟩) n cap) n (xs.set j v) := by
  refine ⟨by simpa using h.1, .inr ?_⟩
  rcases h.2 with ⟨h1, _⟩ | ⟨g', cap', cur, h1, h2, h3, h4, h5, h6, h7⟩
  · cases h1
  · cases h1
    refine ⟨g, cap, cur.setIfInBounds j v, rfl, h2, setCell_heap h3 j v, h4, h5, by simpa using h6, ?_⟩
    rw [Array.toList_setIfInBounds, List.take_set, h7]

theorem moreL_get (T : Nat) (V : Nat → Value) {j : Nat} (hj : j < T - 16) : (moreL T V)[j]? = some (V (16 + j)) := by simp [moreL, hj]
theorem moreL_set {T j : Nat} (V : Nat → Value) (v : Value) : moreL T (vSet V (16 + j) v) = (moreL T V).set j v := by
  apply List.ext_getElem?
  intro i
  rw [List.getElem?_set]
  by_cases hi : i < T - 16
  · rw [moreL_get T _ hi, moreL_get T _ hi]
    have hl : (moreL T V).length = T - 16 := by simp [moreL]
    by_cases e : j = i
    · subst e; rw [if_pos rfl, if_pos (by omega)]; simp [vSet]
    · rw [if_neg e]; simp [vSet]; omega
  · have hl : (moreL T V).length = T - 16 := by simp [moreL]
    have hl2 : (moreL T (vSet V (16 + j) v)).length = T - 16 := by simp [moreL]
    rw [List.getElem?_eq_none (by omega)]
    split
    · rw [if_neg (by omega)]
    · rw [List.getElem?_eq_none (by omega)]
theorem moreL_inl {T j : Nat} (V : Nat → Value) (v : Value) (hj : j < 16) : moreL T (vSet V j v) = moreL T V := by
  unfold moreL
  apply List.map_congr_left
  intro i hi
  simp [vSet]
  omega

/-- A part, as a slice that is read. -/
theorem Cand.part {w : World} {X T : Nat} {V : Nat → Value} {mv : Value} (h : Cand w X T V mv) (hT : T ≤ 1048576) {t : Nat} (ht : t < 2) :
    ∃ a n c, partV X T mv t = .slice a n c ∧ n ≤ c ∧ Kt T t + n = Kt T (t + 1) ∧ Kt T (t + 1) ≤ T ∧ Arr w a n (fun j => V (Kt T t + j)) := by
  have ht2 : t = 0 ∨ t = 1 := by omega
  rcases ht2 with rfl | rfl
  · refine ⟨_, _, _, rfl, by omega, by simp [Kt], by simp [Kt]; omega, ⟨by omega, .inr ⟨X, 0, rfl, fun i hi => ?_⟩⟩⟩
    rw [Nat.zero_add, h.row.cell (by omega)]
    have h1 : i < 16 := by omega
    have h2 : i < T := by omega
    simp [candF, h1, h2, Kt]
  · rcases h.more.2 with ⟨h1, h0⟩ | ⟨g, cap, cur, h1, h2, h3, h4, h5, h6, h7⟩
    · refine ⟨none, 0, 0, h1, by omega, by simp [Kt]; omega, by simp [Kt], ⟨by omega, .inl rfl⟩⟩
    · refine ⟨some ⟨g, 0, none⟩, T - 16, cap, h1, h4, by simp [Kt]; omega, by simp [Kt], ⟨by omega, .inr ⟨g, 0, rfl, fun i hi => ?_⟩⟩⟩
      have h8 := h.more
      rw [h1] at h8
      have := h8.cells (g := g) rfl i _ (moreL_get T V hi)
      rw [addPlain] at this
      rw [this]
      have : min T 16 = 16 := by omega
      simp [Kt, this]

/-- A store into a part. -/
theorem Cand.put {w : World} {X T : Nat} {V : Nat → Value} {mv : Value} (h : Cand w X T V mv) {t j n c : Nat} {a : Option Addr} (ht : t < 2) (hp : partV X T mv t = .slice a n c) (hn : Kt T t + n = Kt T (t + 1)) (hj : j < n) :
    ∃ b, a = some ⟨b, 0, none⟩ ∧ w.frozen? ⟨b, j, none⟩ = false ∧ w.cell? ⟨b, j, none⟩ = some (V (Kt T t + j)) ∧ (b = X ∨ mv.ownBlock = some b) ∧ ∀ v, Cand (w.setCell ⟨b, j, none⟩ v) X T (vSet V (Kt T t + j) v) mv := by
  have ht2 : t = 0 ∨ t = 1 := by omega
  rcases ht2 with rfl | rfl
  · have hp' : (Value.slice (some ⟨X, 0, none⟩) (min T 16) 16) = .slice a n c := hp
    cases hp'
    have h1 : j < 16 := by omega
    have h2 : j < T := by omega
    refine ⟨X, rfl, h.row.frozen j, by rw [h.row.cell (by omega)]; simp [candF, h1, h2, Kt], .inl rfl, fun v => ⟨?_, ?_⟩⟩
    · rw [Kt0, Nat.zero_add]
      refine (h.row.set j v).congr fun i hi => ?_
      simp only [candF]
      by_cases e : i = j
      · subst e; rw [if_pos rfl, if_pos h1, if_pos h2]; simp [vSet]
      · rw [if_neg e]
        have : vSet V j v i = V i := by simp [vSet, e]
        rw [this]
    · rw [Kt0, Nat.zero_add, moreL_inl V v h1]
      refine own_block h.more fun g hg => Below.heap_setCell _ _ _ _ ?_
      have := (h.more.lt g hg).1
      simp only
      omega
  · have hp' : mv = .slice a n c := hp
    rcases h.more.2 with ⟨h1, h0⟩ | ⟨g, cap, cur, h1, h2, h3, h4, h5, h6, h7⟩
    · rw [h1] at hp'
      cases hp'
      omega
    · rw [h1] at hp'
      cases hp'
      have hm : min T 16 = 16 := by omega
      have hK : Kt T 1 = 16 := by simp [Kt, hm]
      have h8 := h.more
      rw [h1] at h8
      have hc := h8.cells (g := g) rfl j _ (moreL_get T V hj)
      rw [addPlain, Nat.zero_add] at hc
      refine ⟨g, rfl, by simp [World.frozen?, h3], by rw [hK]; exact hc, .inr (by rw [h1]; rfl), fun v => ⟨?_, ?_⟩⟩
      · rw [hK]
        refine (h.row.setOther (a := ⟨g, j, none⟩) (show X ≠ g by omega) v).congr fun i hi => ?_
        simp only [candF]
        by_cases e : i < 16
        · rw [if_pos e, if_pos e]
          have : vSet V (16 + j) v i = V i := by simp [vSet]; omega
          rw [this]
        · rw [if_neg e, if_neg e]
      · rw [hK, moreL_set]
        rw [h1]
        exact own_set h8 v

/-- Only the candidates' blocks have turned, and new blocks. -/
structure Touch (X : Nat) (mv : Value) (w w' : World) : Prop where
  os : w'.os = w.os
  tape : w'.tape = w.tape
  output : w'.output = w.output
  size : w.heap.size ≤ w'.heap.size
  block : ∀ k, k < w.heap.size → k ≠ X → mv.ownBlock ≠ some k → w'.heap[k]? = w.heap[k]?
theorem Touch.refl (X : Nat) (mv : Value) (w : World) : Touch X mv w w := ⟨rfl, rfl, rfl, Nat.le_refl _, fun _ _ _ _ => rfl⟩
theorem Touch.same {X : Nat} {mv : Value} {w W W' : World} (h : Touch X mv w W) (e1 : W'.heap = W.heap) (e2 : W'.os = W.os) (e3 : W'.tape = W.tape) (e4 : W'.output = W.output) : Touch X mv w W' :=
  ⟨e2.trans h.os, e3.trans h.tape, e4.trans h.output, by rw [e1]; exact h.size, fun k a b c => by rw [e1]; exact h.block k a b c⟩
theorem Touch.alloc {X : Nat} {mv : Value} {w W : World} (h : Touch X mv w W) (o : Obj) : Touch X mv w (W.alloc o) :=
  ⟨h.os, h.tape, h.output, by have := h.size; simp; omega, fun k a b c => (Below.heap_alloc W o k (by have := h.size; omega)).trans (h.block k a b c)⟩
theorem Touch.setCell {X : Nat} {mv : Value} {w W : World} {p : Addr} (h : Touch X mv w W) (hp : p.block = X ∨ mv.ownBlock = some p.block) (v : Value) : Touch X mv w (W.setCell p v) :=
  ⟨h.os, h.tape, h.output, by have := h.size; simp; omega, fun k a b c => (Below.heap_setCell W p v k (by rintro rfl; rcases hp with e | e; exact b e; exact c e)).trans (h.block k a b c)⟩
theorem Touch.below {X : Nat} {mv : Value} {w w' : World} {T : Nat} {V : Nat → Value} (h : Touch X mv w w') (hc : Cand w X T V mv) : Below X w w' :=
  ⟨h.os, h.tape, h.output, h.size, fun k hk => h.block k (by have := hc.lt; omega) (by omega) (fun e => by have := (hc.more.lt k e).1; omega)⟩
theorem Touch.trans {X : Nat} {mv : Value} {a b c : World} (h1 : Touch X mv a b) (h2 : Touch X mv b c) : Touch X mv a c :=
  ⟨h2.os.trans h1.os, h2.tape.trans h1.tape, h2.output.trans h1.output, Nat.le_trans h1.size h2.size, fun k x y z => (h2.block k (by have := h1.size; omega) y z).trans (h1.block k x y z)⟩

/-- What is left of a list behind its first number. -/
theorem IntsB.tail {X : Nat} {w : World} {a : Option Addr} {l c : Nat} {q : List Int} (h : IntsB X w (.slice a l c) q) (hl : 0 < l) :
    ∃ b off, a = some ⟨b, off, none⟩ ∧ w.cell? ⟨b, off, none⟩ = some (.int .i32 (q.getD 0 0)) ∧ l ≤ c ∧ q.length = l ∧ IntsB X w (.slice (if c = 1 then some ⟨b, off, none⟩ else some ⟨b, off + 1, none⟩) (l - 1) (c - 1)) (q.drop 1) := by
  obtain ⟨a', c', e, h1, h2, h3⟩ := h
  cases e
  obtain ⟨b, off, rfl, h0⟩ := h2.at hl
  refine ⟨b, off, rfl, h0, h1, rfl, ?_⟩
  have hd : (q.drop 1).length = q.length - 1 := by simp
  refine ⟨_, _, by rw [hd], by rw [hd]; omega, ?_, fun hp p hpp => ?_⟩
  · rw [hd]
    by_cases hc : c = 1
    · exact ⟨by have := h2.1; omega, .inl (by omega)⟩
    · rw [if_neg hc]
      refine ⟨by have := h2.1; omega, .inr ⟨b, off + 1, rfl, fun i hi => ?_⟩⟩
      have := h2.cell (k := i + 1) (by omega)
      rw [show off + 1 + i = off + (i + 1) by omega, this]
      simp
  · have hb := h3 hl _ rfl
    split at hpp
    · cases hpp; exact hb
    · cases hpp; exact hb

/-- What next does. -/
def NextPost (w : World) (X T : Nat) (V : Nat → Value) (mv : Value) (Q : Nat → List Int) (e : Ending) (w' : World) : Prop :=
  (leastN Q T < 0 ∧ e = .returned (.tuple #[.int .i32 0, .bool false]) ∧ Cand w' X T V mv ∧ Touch X mv w w') ∨
  (0 ≤ leastN Q T ∧ e = .returned (.tuple #[.int .i32 (leastN Q T), .bool true]) ∧ ∃ V', Cand w' X T V' mv ∧ (∀ i, i < T → IntsB X w' (V' i) (adv Q (leastN Q T) i)) ∧ Touch X mv w w')
end Go.Proofs.Qxb6600159a
