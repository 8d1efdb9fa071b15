import Derived.Test.Qxb6600159aE1
namespace Go.Proofs.Qxb6600159a
open Go.RowKit Go.Maps
set_option linter.unusedVariables false

/-- The candidates at X hold ascending lists whose members are M, of at most tot numbers. -/
def AddSt (w : World) (X : Nat) (M : Int → Prop) (tot : Nat) : Prop :=
  ∃ (T : Nat) (P : Nat → List Int) (U : Nat → Value) (mv : Value), Cand w X T U mv ∧ (∀ j, j < T → IntsB X w (U j) (P j)) ∧ (∀ j, j < T → Asc (P j)) ∧ (∀ x, (∃ j, j < T ∧ x ∈ P j) ↔ M x) ∧ lenS P T ≤ tot ∧ T ≤ lenS P T

theorem AddSt.zero (w : World) : AddSt (w.alloc candZ) w.heap.size (fun _ => False) 0 :=
  ⟨0, fun _ => [], fun _ => undef, .slice none 0 0, Cand.zero w _, fun j hj => (by omega), fun j hj => (by omega), fun x => ⟨fun ⟨j, hj, _⟩ => (by omega), fun h => h.elim⟩, Nat.le_refl _, Nat.le_refl _⟩
theorem AddSt.congr {w : World} {X : Nat} {M M' : Int → Prop} {tot tot' : Nat} (h : AddSt w X M tot) (hM : ∀ x, M x ↔ M' x) (ht : tot ≤ tot') : AddSt w X M' tot' := by
  obtain ⟨T, P, U, mv, h1, h2, h3, h4, h5, h6⟩ := h
  exact ⟨T, P, U, mv, h1, h2, h3, fun x => (h4 x).trans (hM x), by omega, h6⟩

def AddSPost (w : World) (X : Nat) (M : Int → Prop) (tot : Nat) (e : Ending) (w' : World) : Prop := e = .returned (.tuple #[]) ∧ Below X w w' ∧ AddSt w' X M tot

theorem add39S (w : World) (X : Nat) (M : Int → Prop) (tot : Nat) (h : AddSt w X M tot) (ht : tot ≤ 1048576) (a : Option Addr) (l c : Nat) (q : List Int) (hq : q.length = l) (hl : l ≤ 1048576) (hv : IntsB X w (.slice a l c) q) (ha : Asc q) :
    Calls Try.prog 39 #[.pointer (some ⟨X, 0, none⟩), .slice a l c] w (AddSPost w X (fun x => M x ∨ x ∈ q) (tot + l)) := by
  obtain ⟨T, P, U, mv, h1, h2, h3, h4, h5, h6⟩ := h
  refine (add39 w X T U mv h1 (by omega) a l c hl).mono fun e w' hp => ?_
  obtain ⟨rfl, hb, g0, g1⟩ := hp
  refine ⟨rfl, hb, ?_⟩
  by_cases h0 : l = 0
  · obtain ⟨mv', hC⟩ := g0 h0
    have eq : q = [] := List.eq_nil_of_length_eq_zero (by omega)
    refine ⟨T, P, U, mv', hC, fun j hj => (h2 j hj).below hb, h3, fun x => ?_, by omega, h6⟩
    rw [h4 x, eq]
    simp
  · obtain ⟨mv', hC⟩ := g1 (by omega)
    have e1 : lSet P T q T = q := by simp [lSet]
    have e2 : ∀ j, j < T → lSet P T q j = P j := fun j hj => by simp [lSet]; omega
    have e3 : ∀ v, vSet U T v T = v := fun v => by simp [vSet]
    have e4 : ∀ v j, j < T → vSet U T v j = U j := fun v j hj => by simp [vSet]; omega
    have el : lenS (lSet P T q) (T + 1) = lenS P T + l := by simp only [lenS]; rw [e1, lenS_congr e2, hq]
    refine ⟨T + 1, lSet P T q, _, mv', hC, fun j hj => ?_, fun j hj => ?_, fun x => ?_, by omega, by omega⟩
    · by_cases e : j = T
      · subst e; rw [e1, e3]; exact hv.below hb
      · rw [e2 j (by omega), e4 _ j (by omega)]; exact (h2 j (by omega)).below hb
    · by_cases e : j = T
      · subst e; rw [e1]; exact ha
      · rw [e2 j (by omega)]; exact h3 j (by omega)
    · show _ ↔ (M x ∨ x ∈ q)
      rw [← h4 x]
      constructor
      · rintro ⟨j, hj, hx⟩
        by_cases e : j = T
        · subst e; rw [e1] at hx; exact .inr hx
        · rw [e2 j (by omega)] at hx; exact .inl ⟨j, by omega, hx⟩
      · rintro (⟨j, hj, hx⟩ | hx)
        · exact ⟨j, by omega, by rw [e2 j hj]; exact hx⟩
        · exact ⟨T, by omega, by rw [e1]; exact hx⟩

/-- The list that the map holds at a key. -/
def qOf (S : Nat → ByteArray) (Q : Nat → List Int) (n : Nat) (l : List UInt8) : List Int := match lastI S n l with | none => [] | some j => Q j
def vOf (S : Nat → ByteArray) (V : Nat → Value) (n : Nat) (l : List UInt8) : Value := match lastV S V n l with | none => .slice none 0 0 | some v => v

theorem lastI_some {S : Nat → ByteArray} : ∀ {n : Nat} {l : List UInt8} {j : Nat}, lastI S n l = some j → j < n ∧ (S j).data.toList = l ∧ IsLast S j n := by
  intro n
  induction n with
  | zero => intro l j h; cases h
  | succ n ih =>
    intro l j h
    rw [lastI] at h
    split at h
    · rename_i e
      cases h
      exact ⟨by omega, e.symm, fun q h1 h2 => by omega⟩
    · rename_i e
      obtain ⟨h1, h2, h3⟩ := ih h
      refine ⟨by omega, h2, fun q g1 g2 => ?_⟩
      by_cases e' : q = n
      · subst e'; rw [h2]; exact fun e2 => e e2.symm
      · exact h3 q g1 (by omega)
theorem lastI_of {S : Nat → ByteArray} {n i : Nat} (hi : i < n) (hl : IsLast S i n) : lastI S n (S i).data.toList = some i := by
  induction n with
  | zero => omega
  | succ n ih =>
    rw [lastI]
    by_cases e : i = n
    · subst e; rw [if_pos rfl]
    · rw [if_neg (fun h => hl n (by omega) (by omega) h.symm)]
      exact ih (by omega) (fun q g1 g2 => hl q g1 (by omega))

theorem qOf_mem (S : Nat → ByteArray) (Q : Nat → List Int) (n : Nat) (l : List UInt8) (x : Int) : x ∈ qOf S Q n l ↔ ∃ i, i < n ∧ IsLast S i n ∧ (S i).data.toList = l ∧ x ∈ Q i := by
  unfold qOf
  constructor
  · intro h
    split at h
    · cases h
    · rename_i j hj
      obtain ⟨h1, h2, h3⟩ := lastI_some hj
      exact ⟨j, h1, h3, h2, h⟩
  · rintro ⟨i, hi, hl, rfl, hx⟩
    rw [lastI_of hi hl]
    exact hx

/-- What the map gives shows what it holds. -/
theorem vOf_ints {X n : Nat} {w : World} {S : Nat → ByteArray} {V : Nat → Value} {Q : Nat → List Int} (h : ∀ i, i < n → IntsB X w (V i) (Q i)) (l : List UInt8) : IntsB X w (vOf S V n l) (qOf S Q n l) := by
  unfold vOf qOf lastV
  cases hj : lastI S n l with
  | none => exact ⟨none, 0, rfl, Nat.le_refl _, ⟨by simp, .inl rfl⟩, fun h => by simp at h⟩
  | some j => exact h j (lastI_some hj).1
theorem qOf_asc {n : Nat} {S : Nat → ByteArray} {Q : Nat → List Int} (h : ∀ i, i < n → Asc (Q i)) (l : List UInt8) : Asc (qOf S Q n l) := by
  unfold qOf
  split
  · exact ⟨fun i hi => (by simp at hi), fun i hi => (by simp at hi)⟩
  · rename_i j hj; exact h j (lastI_some hj).1
theorem qOf_len {n : Nat} {S : Nat → ByteArray} {Q : Nat → List Int} (l : List UInt8) : (qOf S Q n l).length ≤ sumL Q n := by
  unfold qOf
  split
  · simp
  · rename_i j hj; exact sumL_le Q (lastI_some hj).1

/-- The numbers of the lists whose keys are shorter than i. -/
def sumK (S : Nat → ByteArray) (Q : Nat → List Int) (i : Nat) : Nat → Nat
  | 0 => 0
  | n + 1 => sumK S Q i n + if (S n).data.toList.length < i then (Q n).length else 0
theorem sumK_le (S : Nat → ByteArray) (Q : Nat → List Int) (i n : Nat) : sumK S Q i n ≤ sumL Q n := by
  induction n with
  | zero => exact Nat.le_refl _
  | succ n ih => simp only [sumK, sumL]; split <;> omega
theorem sumK_mono (S : Nat → ByteArray) (Q : Nat → List Int) (i n : Nat) : sumK S Q i n ≤ sumK S Q (i + 1) n := by
  induction n with
  | zero => exact Nat.le_refl _
  | succ n ih =>
    simp only [sumK]
    by_cases h : (S n).data.toList.length < i
    · rw [if_pos h, if_pos (by omega)]; omega
    · rw [if_neg h]; omega
theorem sumK_add (S : Nat → ByteArray) (Q : Nat → List Int) {i n j : Nat} (hj : j < n) (hl : (S j).data.toList.length = i) : sumK S Q i n + (Q j).length ≤ sumK S Q (i + 1) n := by
  induction n with
  | zero => omega
  | succ n ih =>
    simp only [sumK]
    by_cases e : j = n
    · subst e
      have := sumK_mono S Q i j
      rw [if_neg (by omega), if_pos (by omega)]
      omega
    · have := ih (by omega)
      by_cases h : (S n).data.toList.length < i
      · rw [if_pos h, if_pos (by omega)]; omega
      · rw [if_neg h]; omega
theorem sumK_q (S : Nat → ByteArray) (Q : Nat → List Int) {i n : Nat} {l : List UInt8} (hl : l.length = i) : sumK S Q i n + (qOf S Q n l).length ≤ sumK S Q (i + 1) n := by
  unfold qOf
  split
  · have := sumK_mono S Q i n; simp; omega
  · rename_i j hj
    obtain ⟨h1, h2, _⟩ := lastI_some hj
    exact sumK_add S Q h1 (by rw [h2]; exact hl)

/-- An element of the path ends at i. -/
def Ends (p : List UInt8) (i : Nat) : Prop := i = p.length ∨ p[i]? = some 47

theorem ends_elem (k p : List UInt8) : ElemPre k p ↔ ∃ i, i ≤ p.length ∧ Ends p i ∧ p.take i = k := by
  constructor
  · rintro ⟨h1, h2, h3⟩
    exact ⟨k.length, h1, h3, h2⟩
  · rintro ⟨i, h1, h2, rfl⟩
    have e : (p.take i).length = i := by rw [List.length_take]; omega
    refine ⟨by omega, by rw [e], ?_⟩
    rw [e]
    exact h2
end Go.Proofs.Qxb6600159a
