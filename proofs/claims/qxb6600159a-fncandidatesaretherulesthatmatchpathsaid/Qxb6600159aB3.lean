import Derived.Test.Qxb6600159aD8
namespace Go.Proofs.Qxb6600159a
open Go.RowKit
set_option linter.unusedVariables false

theorem lenS_sumL (Q : Nat → List Int) (n : Nat) : lenS Q n = sumL Q n := by
  induction n with
  | zero => rfl
  | succ n ih => simp [lenS, sumL, ih]

theorem asc_pairwise : ∀ {q : List Int}, Asc q → q.Pairwise (· < ·)
  | [], _ => List.Pairwise.nil
  | [a], _ => List.pairwise_singleton _ _
  | a :: b :: r, h => by
    have h2 : Asc (b :: r) := ⟨fun i hi => (by have := h.1 (i + 1) (by simp at hi ⊢; omega); simpa using this), fun i hi => (by have := h.2 (i + 1) (by simp at hi ⊢; omega); simpa using this)⟩
    have ih := asc_pairwise h2
    rw [List.pairwise_cons]
    refine ⟨fun y hy => ?_, ih⟩
    have hab : a < b := by have := h.2 0 (by simp); simpa using this
    rcases List.mem_cons.1 hy with rfl | hy
    · exact hab
    · rw [List.pairwise_cons] at ih
      have := ih.1 y hy
      omega
theorem asc_nonneg {q : List Int} (h : Asc q) : ∀ x ∈ q, 0 ≤ x := by
  intro x hx
  obtain ⟨i, hi, rfl⟩ := List.mem_iff_getElem.1 hx
  have := h.1 i hi
  simpa [hi] using this

/-- Behind k adds: the T lists that are not empty, in order. -/
def Added (Q : Nat → List Int) (k T : Nat) (P : Nat → List Int) : Prop :=
  T ≤ k ∧ (∀ j, j < T → ∃ i, i < k ∧ P j = Q i) ∧ (∀ x, (∃ j, j < T ∧ x ∈ P j) ↔ ∃ i, i < k ∧ x ∈ Q i) ∧ lenS P T = sumL Q k
theorem Added.zero (Q P : Nat → List Int) : Added Q 0 0 P :=
  ⟨Nat.le_refl _, fun j hj => (by omega), fun x => ⟨fun ⟨j, hj, _⟩ => (by omega), fun ⟨j, hj, _⟩ => (by omega)⟩, rfl⟩
theorem Added.skip {Q : Nat → List Int} {k T : Nat} {P : Nat → List Int} (h : Added Q k T P) (h0 : (Q k).length = 0) : Added Q (k + 1) T P := by
  obtain ⟨h1, h2, h3, h4⟩ := h
  have e : Q k = [] := List.eq_nil_of_length_eq_zero h0
  refine ⟨by omega, fun j hj => (let ⟨i, hi, e⟩ := h2 j hj; ⟨i, by omega, e⟩), fun x => ?_, by simp only [sumL]; omega⟩
  rw [h3 x]
  constructor
  · rintro ⟨i, hi, hx⟩; exact ⟨i, by omega, hx⟩
  · rintro ⟨i, hi, hx⟩
    by_cases e2 : i = k
    · subst e2; rw [e] at hx; cases hx
    · exact ⟨i, by omega, hx⟩
def lSet (P : Nat → List Int) (T : Nat) (q : List Int) (j : Nat) : List Int := if j = T then q else P j
theorem lenS_congr {P P' : Nat → List Int} {n : Nat} (h : ∀ i, i < n → P i = P' i) : lenS P n = lenS P' n := by
  induction n with
  | zero => rfl
  | succ n ih => simp only [lenS]; rw [ih (fun i hi => h i (by omega)), h n (by omega)]
theorem Added.put {Q : Nat → List Int} {k T : Nat} {P : Nat → List Int} (h : Added Q k T P) : Added Q (k + 1) (T + 1) (lSet P T (Q k)) := by
  obtain ⟨h1, h2, h3, h4⟩ := h
  have e1 : lSet P T (Q k) T = Q k := by simp [lSet]
  have e2 : ∀ j, j < T → lSet P T (Q k) j = P j := fun j hj => by simp [lSet]; omega
  refine ⟨by omega, fun j hj => ?_, fun x => ?_, ?_⟩
  · by_cases e : j = T
    · subst e; exact ⟨k, by omega, e1⟩
    · obtain ⟨i, hi, hp⟩ := h2 j (by omega)
      exact ⟨i, by omega, by rw [e2 j (by omega)]; exact hp⟩
  · constructor
    · rintro ⟨j, hj, hx⟩
      by_cases e : j = T
      · subst e; rw [e1] at hx; exact ⟨k, by omega, hx⟩
      · rw [e2 j (by omega)] at hx
        obtain ⟨i, hi, hx⟩ := (h3 x).1 ⟨j, by omega, hx⟩
        exact ⟨i, by omega, hx⟩
    · rintro ⟨i, hi, hx⟩
      by_cases e : i = k
      · subst e; exact ⟨T, by omega, by rw [e1]; exact hx⟩
      · obtain ⟨j, hj, hx⟩ := (h3 x).2 ⟨i, by omega, hx⟩
        exact ⟨j, by omega, by rw [e2 j hj]; exact hx⟩
  · simp only [lenS, sumL]
    rw [e1, lenS_congr e2, h4]

/-- The union of what was added is what the run gives. -/
theorem run_union {Q P : Nat → List Int} {n T lim : Nat} (hA : Added Q n T P) (hasc : ∀ i, i < n → Asc (Q i)) (hlim : lim = sumL Q n) {o : List Int} {b : Bool}
    (h : (b = true ∧ ∃ s, s ≤ lim ∧ o = outs P T s ∧ (∀ r, r < s → 0 ≤ leastN (st P T r) T) ∧ leastN (st P T s) T < 0) ∨ (b = false ∧ ∀ r, r ≤ lim → 0 ≤ leastN (st P T r) T)) :
    b = true ∧ o.Pairwise (· < ·) ∧ ∀ x, x ∈ o ↔ ∃ i, i < n ∧ x ∈ Q i := by
  have hP : ∀ j, j < T → Asc (P j) := fun j hj => (let ⟨i, hi, e⟩ := hA.2.1 j hj; by rw [e]; exact hasc i hi)
  have R0 : Run P T 0 := Run.zero (fun j hj => asc_pairwise (hP j hj)) (fun j hj => asc_nonneg (hP j hj))
  rcases h with ⟨hb, s, hs, rfl, h1, h2⟩ | ⟨hb, h1⟩
  · have R := R0.all s h1
    exact ⟨hb, R.out, fun x => (R.done h2 x).trans (hA.2.2.1 x)⟩
  · exfalso
    have R := R0.all (lim + 1) (fun r hr => h1 r (by omega))
    have := R.len
    rw [hA.2.2.2] at this
    omega

/-- The first loop of the law: the lists are added. -/
def ARel (w1 : World) (X n : Nat) (V : Nat → Value) (Q : Nat → List Int) (i : Value) (wr : World) : Prop :=
  ∃ (k T : Nat) (P : Nat → List Int) (U : Nat → Value) (mv : Value), k ≤ n ∧ i = .int .i64 k ∧ Cand wr X T U mv ∧ Hid (Added Q k T P) ∧ Hid (∀ j, j < T → IntsB X wr (U j) (P j)) ∧ Below X w1 wr

theorem ARel.next {w1 wr w2 : World} {X n k T : Nat} {V U : Nat → Value} {Q P : Nat → List Int} (hk : k < n) (hX : X = w1.heap.size) (hA : Added Q k T P) (hI : ∀ j, j < T → IntsB X wr (U j) (P j)) (hb : Below X w1 wr)
    (hV : IntsB X wr (V k) (Q k)) (hp : AddPost wr X T U (V k) (Q k).length (.returned (.tuple #[])) w2) : ARel w1 X n V Q (.int .i64 ((k + 1 : Nat) : Int)) w2 := by
  obtain ⟨_, hb2, h0, h1⟩ := hp
  have hb3 := hb.trans hb2
  by_cases e : (Q k).length = 0
  · obtain ⟨mv, hC⟩ := h0 e
    exact ⟨k + 1, T, P, U, mv, by omega, rfl, hC, hid (hA.skip e), hid (fun j hj => (hI j hj).below hb2), hb3⟩
  · obtain ⟨mv, hC⟩ := h1 (by omega)
    refine ⟨k + 1, T + 1, _, _, mv, by omega, rfl, hC, hid hA.put, hid (fun j hj => ?_), hb3⟩
    by_cases e2 : j = T
    · subst e2
      have e3 : vSet U j (V k) j = V k := by simp [vSet]
      have e4 : lSet P j (Q k) j = Q k := by simp [lSet]
      rw [e3, e4]
      exact hV.below hb2
    · have e3 : vSet U T (V k) j = U j := by simp [vSet, e2]
      have e4 : lSet P T (Q k) j = P j := by simp [lSet, e2]
      rw [e3, e4]
      exact (hI j (by omega)).below hb2
end Go.Proofs.Qxb6600159a
