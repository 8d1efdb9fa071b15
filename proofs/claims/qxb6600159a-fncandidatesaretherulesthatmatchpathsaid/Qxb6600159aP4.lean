/-! The plain mathematics of the union and of the merged run: no Go in sight. -/
namespace Go.Proofs.Qxb6600159a

/-- All numbers of the first k lists, one list behind the other. -/
def flat (Q : Nat → List Int) : Nat → List Int
  | 0 => []
  | k + 1 => flat Q k ++ Q k
theorem mem_flat (Q : Nat → List Int) (n : Nat) (x : Int) : x ∈ flat Q n ↔ ∃ i, i < n ∧ x ∈ Q i := by
  induction n with
  | zero => simp [flat]
  | succ n ih =>
    simp only [flat, List.mem_append, ih]
    constructor
    · rintro (⟨i, hi, hx⟩ | hx)
      · exact ⟨i, by omega, hx⟩
      · exact ⟨n, by omega, hx⟩
    · rintro ⟨i, hi, hx⟩
      by_cases e : i = n
      · subst e; exact .inr hx
      · exact .inl ⟨i, by omega, hx⟩

/-- The first k numbers, each but once where the same stand together. -/
def ded (f : Nat → Int) : Nat → List Int
  | 0 => []
  | k + 1 => if k = 0 ∨ f (k - 1) ≠ f k then ded f k ++ [f k] else ded f k
theorem ded_last (f : Nat → Int) (k : Nat) : (ded f (k + 1)).getLast? = some (f k) := by
  induction k with
  | zero => simp [ded]
  | succ k ih =>
    rw [ded]
    by_cases e : f k = f (k + 1)
    · rw [if_neg (by simp [e]), ih, e]
    · rw [if_pos (by simp [e])]; simp
theorem ded_len (f : Nat → Int) (k : Nat) : (ded f k).length ≤ k := by
  induction k with
  | zero => simp [ded]
  | succ k ih =>
    rw [ded]
    split
    · simp; omega
    · omega
theorem ded_pos (f : Nat → Int) (k : Nat) : 0 < (ded f (k + 1)).length := by
  have := ded_last f k
  cases h : ded f (k + 1) with
  | nil => rw [h] at this; cases this
  | cons a l => simp
theorem ded_lastD (f : Nat → Int) (k : Nat) : (ded f (k + 1)).getD ((ded f (k + 1)).length - 1) 0 = f k := by
  have := ded_last f k
  rw [List.getLast?_eq_getElem?] at this
  simp [this]
theorem mem_ded (f : Nat → Int) (k : Nat) (x : Int) : x ∈ ded f k ↔ ∃ i, i < k ∧ f i = x := by
  induction k with
  | zero => simp [ded]
  | succ k ih =>
    rw [ded]
    split
    · rw [List.mem_append, ih]
      simp only [List.mem_singleton]
      constructor
      · rintro (⟨i, hi, rfl⟩ | rfl)
        · exact ⟨i, by omega, rfl⟩
        · exact ⟨k, by omega, rfl⟩
      · rintro ⟨i, hi, rfl⟩
        by_cases e : i = k
        · subst e; exact .inr rfl
        · exact .inl ⟨i, by omega, rfl⟩
    · rename_i h
      have h1 : ¬ k = 0 := fun e => h (.inl e)
      have h2 : f (k - 1) = f k := Decidable.byContradiction fun e => h (.inr e)
      rw [ih]
      constructor
      · rintro ⟨i, hi, rfl⟩; exact ⟨i, by omega, rfl⟩
      · rintro ⟨i, hi, rfl⟩
        by_cases e : i = k
        · subst e; exact ⟨i - 1, by omega, h2⟩
        · exact ⟨i, by omega, rfl⟩
theorem ded_asc {f : Nat → Int} {n : Nat} (hs : ∀ p q, p ≤ q → q < n → f p ≤ f q) : ∀ k, k ≤ n → (ded f k).Pairwise (· < ·) := by
  intro k
  induction k with
  | zero => intro _; exact List.Pairwise.nil
  | succ k ih =>
    intro hk
    rw [ded]
    split
    · rename_i h
      rw [List.pairwise_append]
      refine ⟨ih (by omega), List.pairwise_singleton _ _, fun x hx y hy => ?_⟩
      simp only [List.mem_singleton] at hy
      subst hy
      obtain ⟨i, hi, rfl⟩ := (mem_ded f k x).1 hx
      rcases h with h | h
      · omega
      · have h1 := hs i (k - 1) (by omega) (by omega)
        have h2 := hs (k - 1) k (by omega) (by omega)
        omega
    · exact ih (by omega)

theorem asc_eq : ∀ {a b : List Int}, a.Pairwise (· < ·) → b.Pairwise (· < ·) → (∀ x, x ∈ a ↔ x ∈ b) → a = b
  | [], [], _, _, _ => rfl
  | [], y :: b, _, _, h => absurd ((h y).2 (by simp)) (by simp)
  | x :: a, [], _, _, h => absurd ((h x).1 (by simp)) (by simp)
  | x :: a, y :: b, ha, hb, h => by
    rw [List.pairwise_cons] at ha hb
    have e : x = y := by
      rcases List.mem_cons.1 ((h x).1 (by simp)) with e | hx
      · exact e
      · rcases List.mem_cons.1 ((h y).2 (by simp)) with e | hy
        · exact e.symm
        · have h1 := ha.1 y hy
          have h2 := hb.1 x hx
          omega
    subst e
    congr 1
    refine asc_eq ha.2 hb.2 fun z => ⟨fun hz => ?_, fun hz => ?_⟩
    · rcases List.mem_cons.1 ((h z).1 (List.mem_cons_of_mem _ hz)) with e | hz'
      · have := ha.1 z hz; omega
      · exact hz'
    · rcases List.mem_cons.1 ((h z).2 (List.mem_cons_of_mem _ hz)) with e | hz'
      · have := hb.1 z hz; omega
      · exact hz'

/-- The least first number of the first K lists, as next seeks it; -1: none. -/
def leastN (Q : Nat → List Int) : Nat → Int
  | 0 => -1
  | K + 1 => if 0 < (Q K).length ∧ (leastN Q K < 0 ∨ (Q K).getD 0 0 < leastN Q K) then (Q K).getD 0 0 else leastN Q K
/-- What next leaves of a list. -/
def adv (Q : Nat → List Int) (m : Int) (i : Nat) : List Int := if 0 < (Q i).length ∧ (Q i).getD 0 0 = m then (Q i).drop 1 else Q i
/-- The lists behind s rounds. -/
def st (Q : Nat → List Int) (T : Nat) : Nat → Nat → List Int
  | 0 => Q
  | s + 1 => adv (st Q T s) (leastN (st Q T s) T)
/-- The run of s rounds. -/
def outs (Q : Nat → List Int) (T : Nat) : Nat → List Int
  | 0 => []
  | s + 1 => outs Q T s ++ [leastN (st Q T s) T]
theorem outs_len (Q : Nat → List Int) (T s : Nat) : (outs Q T s).length = s := by
  induction s with
  | zero => rfl
  | succ s ih => simp [outs, ih]

def Nonneg (Q : Nat → List Int) (T : Nat) : Prop := ∀ i, i < T → ∀ x ∈ Q i, 0 ≤ x

theorem hd_mem {q : List Int} (h : 0 < q.length) : q.getD 0 0 ∈ q := by
  cases q with
  | nil => simp at h
  | cons a l => simp

theorem least_spec (Q : Nat → List Int) : ∀ T, Nonneg Q T → (leastN Q T < 0 ∧ (∀ i, i < T → Q i = [])) ∨ (0 ≤ leastN Q T ∧ (∃ i, i < T ∧ 0 < (Q i).length ∧ (Q i).getD 0 0 = leastN Q T) ∧ ∀ i, i < T → 0 < (Q i).length → leastN Q T ≤ (Q i).getD 0 0) := by
  intro T
  induction T with
  | zero => intro _; exact .inl ⟨by simp [leastN], fun i hi => by omega⟩
  | succ T ih =>
    intro hn
    have ih' := ih (fun i hi => hn i (by omega))
    rw [leastN]
    by_cases h0 : 0 < (Q T).length
    · have hh := hn T (by omega) _ (hd_mem h0)
      rcases ih' with ⟨h1, h2⟩ | ⟨h1, ⟨i, hi, hl, he⟩, h3⟩
      · rw [if_pos ⟨h0, .inl h1⟩]
        refine .inr ⟨hh, ⟨T, by omega, h0, rfl⟩, fun j hj hl => ?_⟩
        by_cases e : j = T
        · subst e; exact Int.le_refl _
        · rw [h2 j (by omega)] at hl; simp at hl
      · by_cases hlt : (Q T).getD 0 0 < leastN Q T
        · rw [if_pos ⟨h0, .inr hlt⟩]
          refine .inr ⟨hh, ⟨T, by omega, h0, rfl⟩, fun j hj hl => ?_⟩
          by_cases e : j = T
          · subst e; exact Int.le_refl _
          · have := h3 j (by omega) hl; omega
        · rw [if_neg (by rintro ⟨_, h | h⟩ <;> omega)]
          refine .inr ⟨h1, ⟨i, by omega, hl, he⟩, fun j hj hl => ?_⟩
          by_cases e : j = T
          · subst e; omega
          · exact h3 j (by omega) hl
    · have e0 : Q T = [] := List.eq_nil_of_length_eq_zero (by omega)
      rw [if_neg (fun h => h0 h.1)]
      rcases ih' with ⟨h1, h2⟩ | ⟨h1, ⟨i, hi, hl, he⟩, h3⟩
      · refine .inl ⟨h1, fun j hj => ?_⟩
        by_cases e : j = T
        · subst e; exact e0
        · exact h2 j (by omega)
      · refine .inr ⟨h1, ⟨i, by omega, hl, he⟩, fun j hj hl' => ?_⟩
        by_cases e : j = T
        · subst e; omega
        · exact h3 j (by omega) hl'

def lenS (Q : Nat → List Int) : Nat → Nat
  | 0 => 0
  | n + 1 => lenS Q n + (Q n).length
theorem adv_len (Q : Nat → List Int) (m : Int) (i : Nat) : (adv Q m i).length ≤ (Q i).length := by
  unfold adv; split
  · simp
  · exact Nat.le_refl _
theorem lenS_adv_le (Q : Nat → List Int) (m : Int) (n : Nat) : lenS (adv Q m) n ≤ lenS Q n := by
  induction n with
  | zero => exact Nat.le_refl _
  | succ n ih => have := adv_len Q m n; simp only [lenS]; omega
theorem lenS_adv_lt (Q : Nat → List Int) (m : Int) {n i : Nat} (hi : i < n) (hl : 0 < (Q i).length) (he : (Q i).getD 0 0 = m) : lenS (adv Q m) n < lenS Q n := by
  induction n with
  | zero => omega
  | succ n ih =>
    simp only [lenS]
    by_cases e : i = n
    · subst e
      have h1 := lenS_adv_le Q m i
      have h2 : (adv Q m i).length = (Q i).length - 1 := by unfold adv; rw [if_pos ⟨hl, he⟩]; simp
      omega
    · have := ih (by omega)
      have := adv_len Q m n
      omega

/-- The state behind s good rounds. -/
structure Run (Q : Nat → List Int) (T s : Nat) : Prop where
  asc : ∀ i, i < T → (st Q T s i).Pairwise (· < ·)
  non : Nonneg (st Q T s) T
  out : (outs Q T s).Pairwise (· < ·)
  low : ∀ x ∈ outs Q T s, ∀ i, i < T → ∀ y ∈ st Q T s i, x < y
  mem : ∀ x, (∃ i, i < T ∧ x ∈ Q i) ↔ (x ∈ outs Q T s ∨ ∃ i, i < T ∧ x ∈ st Q T s i)
  len : lenS (st Q T s) T + s ≤ lenS Q T

theorem Run.zero {Q : Nat → List Int} {T : Nat} (h1 : ∀ i, i < T → (Q i).Pairwise (· < ·)) (h2 : Nonneg Q T) : Run Q T 0 :=
  ⟨h1, h2, List.Pairwise.nil, fun x hx => (by cases hx), fun x => ⟨fun h => .inr h, fun h => h.elim (fun h => (by cases h)) id⟩, Nat.le_refl _⟩

theorem asc_head {q : List Int} (h : q.Pairwise (· < ·)) (hl : 0 < q.length) : ∀ y ∈ q, q.getD 0 0 ≤ y := by
  cases q with
  | nil => simp at hl
  | cons a l =>
    rw [List.pairwise_cons] at h
    intro y hy
    rcases List.mem_cons.1 hy with rfl | hy
    · simp
    · have := h.1 y hy; simp; omega

theorem Run.next {Q : Nat → List Int} {T s : Nat} (h : Run Q T s) (hl : 0 ≤ leastN (st Q T s) T) : Run Q T (s + 1) := by
  rcases least_spec (st Q T s) T h.non with ⟨h1, _⟩ | ⟨_, ⟨i0, hi0, hl0, he0⟩, hmin⟩
  · omega
  have hmem : ∀ i y, y ∈ st Q T (s + 1) i → y ∈ st Q T s i := by
    intro i y hy
    simp only [st, adv] at hy
    split at hy
    · exact List.mem_of_mem_drop hy
    · exact hy
  have hbig : ∀ i, i < T → ∀ y ∈ st Q T (s + 1) i, leastN (st Q T s) T < y := by
    intro i hi y hy
    have hlen : 0 < (st Q T s i).length := List.length_pos_of_mem (hmem i y hy)
    have hm := hmin i hi hlen
    have hb := asc_head (h.asc i hi) hlen y (hmem i y hy)
    simp only [st, adv] at hy
    split at hy
    · rename_i hc
      have ha := h.asc i hi
      revert hy ha hc
      cases st Q T s i with
      | nil => simp
      | cons a l =>
        intro hc hy ha
        rw [List.pairwise_cons] at ha
        simp at hy hc
        have := ha.1 y hy
        omega
    · rename_i hc
      have : ¬ (st Q T s i).getD 0 0 = leastN (st Q T s) T := fun e => hc ⟨hlen, e⟩
      omega
  refine ⟨fun i hi => ?_, fun i hi x hx => h.non i hi x (hmem i x hx), ?_, ?_, fun x => ?_, ?_⟩
  · simp only [st, adv]
    split
    · exact (h.asc i hi).sublist (List.drop_sublist _ _)
    · exact h.asc i hi
  · simp only [outs]
    rw [List.pairwise_append]
    refine ⟨h.out, List.pairwise_singleton _ _, fun x hx y hy => ?_⟩
    simp only [List.mem_singleton] at hy
    subst hy
    rw [← he0]
    exact h.low x hx i0 hi0 _ (hd_mem hl0)
  · intro x hx i hi y hy
    simp only [outs, List.mem_append, List.mem_singleton] at hx
    rcases hx with hx | rfl
    · exact h.low x hx i hi y (hmem i y hy)
    · exact hbig i hi y hy
  · rw [h.mem x]
    simp only [outs, List.mem_append, List.mem_singleton]
    constructor
    · rintro (hx | ⟨i, hi, hx⟩)
      · exact .inl (.inl hx)
      · by_cases e : x = leastN (st Q T s) T
        · exact .inl (.inr e)
        · refine .inr ⟨i, hi, ?_⟩
          simp only [st, adv]
          split
          · rename_i hc
            revert hx hc
            cases st Q T s i with
            | nil => simp
            | cons a l =>
              intro hx hc
              simp at hx hc ⊢
              rcases hx with rfl | hx
              · exact absurd hc e
              · exact hx
          · exact hx
    · rintro ((hx | rfl) | ⟨i, hi, hx⟩)
      · exact .inl hx
      · exact .inr ⟨i0, hi0, by rw [← he0]; exact hd_mem hl0⟩
      · exact .inr ⟨i, hi, hmem i x hx⟩
  · have := lenS_adv_lt (st Q T s) (leastN (st Q T s) T) hi0 hl0 he0
    have := h.len
    simp only [st]
    omega

theorem Run.all {Q : Nat → List Int} {T : Nat} (h0 : Run Q T 0) : ∀ s, (∀ r, r < s → 0 ≤ leastN (st Q T r) T) → Run Q T s := by
  intro s
  induction s with
  | zero => intro _; exact h0
  | succ s ih => intro h; exact (ih fun r hr => h r (by omega)).next (h s (by omega))

/-- What the run has given when it ends: the sorted union. -/
theorem Run.done {Q : Nat → List Int} {T s : Nat} (h : Run Q T s) (hl : leastN (st Q T s) T < 0) : ∀ x, x ∈ outs Q T s ↔ ∃ i, i < T ∧ x ∈ Q i := by
  rcases least_spec (st Q T s) T h.non with ⟨_, h2⟩ | ⟨h1, _⟩
  · intro x
    rw [h.mem x]
    constructor
    · intro hx; exact .inl hx
    · rintro (hx | ⟨i, hi, hx⟩)
      · exact hx
      · rw [h2 i hi] at hx; cases hx
  · omega
end Go.Proofs.Qxb6600159a
