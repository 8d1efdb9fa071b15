/-! The plain mathematics of the max tree: no Go in sight. -/
namespace Go.Proofs.Qxb6601371a

def mx (a b : Int) : Int := if b ≤ a then a else b

/-- Each inner node is the greatest of its two children. -/
def Heap (L : Nat) (z : Nat → Int) : Prop := ∀ k, 1 ≤ k → k < L → z k = mx (z (2 * k)) (z (2 * k + 1))

theorem mx_le_left (a b : Int) : a ≤ mx a b := by unfold mx; split <;> omega
theorem mx_le_right (a b : Int) : b ≤ mx a b := by unfold mx; split <;> omega
theorem mx_cases (a b c : Int) (h : c ≤ mx a b) : c ≤ a ∨ c ≤ b := by unfold mx at h; split at h <;> omega

/-- A node is no less than what lies s levels beneath it. -/
theorem cover {L : Nat} {z : Nat → Int} (h : Heap L z) : ∀ (s j : Nat), 1 ≤ j → (j + 1) * 2 ^ s ≤ 2 * L → ∀ x, j * 2 ^ s ≤ x → x < (j + 1) * 2 ^ s → z x ≤ z j := by
  intro s
  induction s with
  | zero =>
    intro j hj _ x h1 h2
    have : x = j := by simp at h1 h2; omega
    rw [this]; exact Int.le_refl _
  | succ s ih =>
    intro j hj hL x h1 h2
    have e1 : j * 2 ^ (s + 1) = (2 * j) * 2 ^ s := by rw [Nat.pow_succ, Nat.mul_comm (2 ^ s) 2, ← Nat.mul_assoc, Nat.mul_comm j 2]
    have e2 : (j + 1) * 2 ^ (s + 1) = (2 * j + 1 + 1) * 2 ^ s := by
      rw [Nat.pow_succ, Nat.mul_comm (2 ^ s) 2, ← Nat.mul_assoc]; congr 1; omega
    have e3 : (2 * j + 1) * 2 ^ s = (2 * j) * 2 ^ s + 2 ^ s := by rw [Nat.add_mul]; omega
    have e4 : (2 * j + 1 + 1) * 2 ^ s = (2 * j) * 2 ^ s + 2 ^ s + 2 ^ s := by rw [Nat.add_mul, e3]; omega
    have hp : 0 < 2 ^ s := Nat.pos_of_ne_zero (by simp)
    have hjL : j < L := by
      have : 2 * (j + 1) ≤ (j + 1) * 2 ^ (s + 1) := by
        rw [Nat.pow_succ, Nat.mul_comm (2 ^ s) 2, ← Nat.mul_assoc, Nat.mul_comm 2 (j + 1)]
        exact Nat.le_mul_of_pos_right _ hp
      omega
    rw [h j hj hjL]
    by_cases hx : x < (2 * j + 1) * 2 ^ s
    · exact Int.le_trans (ih (2 * j) (by omega) (by omega) x (by omega) hx) (mx_le_left _ _)
    · exact Int.le_trans (ih (2 * j + 1) (by omega) (by omega) x (by omega) (by omega)) (mx_le_right _ _)

/-- The answer: the last index in [from, to) whose number is no less than the bound, or -1. -/
def IsLast (L : Nat) (z : Nat → Int) (fr : Int) (to : Nat) (bd : Int) (r : Int) : Prop :=
  (r = -1 ∧ ∀ i : Nat, fr ≤ i → i < to → z (L + i) < bd) ∨
  (∃ i : Nat, r = i ∧ fr ≤ i ∧ i < to ∧ bd ≤ z (L + i) ∧ ∀ t : Nat, i < t → t < to → z (L + t) < bd)

theorem isLast_unique {L : Nat} {z : Nat → Int} {fr : Int} {to : Nat} {bd r r' : Int} (h : IsLast L z fr to bd r) (h' : IsLast L z fr to bd r') : r = r' := by
  rcases h with ⟨e, h⟩ | ⟨i, e, h1, h2, h3, h4⟩
  · rcases h' with ⟨e', h'⟩ | ⟨i', e', h1', h2', h3', h4'⟩
    · omega
    · have := h i' h1' h2'; omega
  · rcases h' with ⟨e', h'⟩ | ⟨i', e', h1', h2', h3', h4'⟩
    · have := h' i h1 h2; omega
    · by_cases hlt : i < i'
      · have := h4 i' hlt h2'; omega
      · by_cases hgt : i' < i
        · have := h4' i hgt h2; omega
        · omega

/-- The way up: node k, s levels above the leaves, q below the root. -/
def Climb (L p : Nat) (z : Nat → Int) (to : Nat) (bd : Int) (k : Nat) : Prop :=
  ∃ q s, s + q = p ∧ 2 ^ q ≤ k ∧ k < 2 ^ (q + 1) ∧ k * 2 ^ s ≤ L + to - 1 ∧ L + to - 1 < (k + 1) * 2 ^ s ∧ ∀ x, k * 2 ^ s ≤ x → x < L + to → z x < bd

theorem top {p q s k : Nat} (hp : s + q = p) (h : k < 2 ^ (q + 1)) : (k + 1) * 2 ^ s ≤ 2 * 2 ^ p := by
  have : (k + 1) * 2 ^ s ≤ 2 ^ (q + 1) * 2 ^ s := Nat.mul_le_mul_right _ h
  rw [← Nat.pow_add] at this
  have e : 2 * 2 ^ p = 2 ^ (q + 1 + s) := by rw [← hp, Nat.mul_comm, ← Nat.pow_succ]; congr 1; omega
  omega

theorem climb_start {p : Nat} {z : Nat → Int} {to : Nat} {bd : Int} (h1 : 1 ≤ to) (h2 : to ≤ 2 ^ p) (hz : z (2 ^ p + to - 1) < bd) : Climb (2 ^ p) p z to bd (2 ^ p + to - 1) := by
  refine ⟨p, 0, by omega, by omega, by rw [Nat.pow_succ]; omega, by simp, by simp, fun x hx1 hx2 => ?_⟩
  have : x = 2 ^ p + to - 1 := by simp at hx1; omega
  rw [this]; exact hz

theorem climb_step {p : Nat} {z : Nat → Int} {to : Nat} {bd : Int} {k : Nat} (hh : Heap (2 ^ p) z) (h : Climb (2 ^ p) p z to bd k) (hk : k ≠ 1) (hc : k % 2 = 0 ∨ z (k - 1) < bd) : Climb (2 ^ p) p z to bd (k / 2) := by
  obtain ⟨q, s, hp, h1, h2, h3, h4, h5⟩ := h
  have hq : q ≠ 0 := by intro e; subst e; simp at h1 h2; omega
  obtain ⟨q', rfl⟩ : ∃ q', q = q' + 1 := ⟨q - 1, by omega⟩
  have e1 : k / 2 * 2 ^ (s + 1) = (2 * (k / 2)) * 2 ^ s := by rw [Nat.pow_succ, Nat.mul_comm (2 ^ s) 2, ← Nat.mul_assoc, Nat.mul_comm (k / 2) 2]
  have e2 : (k / 2 + 1) * 2 ^ (s + 1) = (2 * (k / 2) + 1 + 1) * 2 ^ s := by
    rw [Nat.pow_succ, Nat.mul_comm (2 ^ s) 2, ← Nat.mul_assoc]; congr 1; omega
  have e5 : 2 ^ (q' + 1 + 1) = 2 * (2 ^ (q' + 1)) := by rw [Nat.pow_succ]; omega
  have e6 : 2 ^ (q' + 1) = 2 * (2 ^ q') := by rw [Nat.pow_succ]; omega
  have ht := top hp h2
  refine ⟨q', s + 1, by omega, by omega, by omega, ?_, ?_, ?_⟩
  · rw [e1]
    exact Nat.le_trans (Nat.mul_le_mul_right _ (by omega)) h3
  · rw [e2]
    exact Nat.lt_of_lt_of_le h4 (Nat.mul_le_mul_right _ (by omega))
  · intro x hx1 hx2
    rw [e1] at hx1
    by_cases hx : k * 2 ^ s ≤ x
    · exact h5 x hx hx2
    · have hodd : k % 2 = 1 := by
        rcases Nat.mod_two_eq_zero_or_one k with h0 | h0
        · exfalso
          have : 2 * (k / 2) = k := by omega
          rw [this] at hx1; omega
        · exact h0
      have hz : z (k - 1) < bd := by rcases hc with h0 | h0 <;> omega
      have hk1 : k - 1 = 2 * (k / 2) := by omega
      have hkk : k - 1 + 1 = k := by omega
      have := cover hh s (k - 1) (by omega) (by rw [hkk]; exact Nat.le_trans (Nat.mul_le_mul_right _ (by omega)) ht) x (by rw [hk1]; exact hx1) (by rw [hkk]; omega)
      omega

theorem climb_one {p : Nat} {z : Nat → Int} {to : Nat} {bd : Int} (h : Climb (2 ^ p) p z to bd 1) : ∀ x, 2 ^ p ≤ x → x < 2 ^ p + to → z x < bd := by
  obtain ⟨q, s, hp, h1, h2, h3, h4, h5⟩ := h
  have hq : q = 0 := by
    rcases Nat.eq_zero_or_pos q with h0 | h0
    · exact h0
    · have : 2 ^ 1 ≤ 2 ^ q := Nat.pow_le_pow_right (by omega) h0
      omega
  subst hq
  have : s = p := by omega
  subst this
  simpa using h5

theorem climb_bounds {p : Nat} {z : Nat → Int} {to : Nat} {bd : Int} {k : Nat} (h : Climb (2 ^ p) p z to bd k) : 1 ≤ k ∧ k < 2 * 2 ^ p := by
  obtain ⟨q, s, hp, h1, h2, h3, h4, h5⟩ := h
  have : 0 < 2 ^ q := Nat.pos_of_ne_zero (by simp)
  have h6 : 2 ^ (q + 1) ≤ 2 ^ (p + 1) := Nat.pow_le_pow_right (by omega) (by omega)
  have e : 2 ^ (p + 1) = 2 * 2 ^ p := by rw [Nat.pow_succ]; omega
  omega

/-- The way down. -/
def Down (L p : Nat) (z : Nat → Int) (to : Nat) (bd : Int) (k : Nat) : Prop :=
  ∃ q s, s + q = p ∧ 2 ^ q ≤ k ∧ k < 2 ^ (q + 1) ∧ bd ≤ z k ∧ (k + 1) * 2 ^ s ≤ L + to ∧ ∀ x, (k + 1) * 2 ^ s ≤ x → x < L + to → z x < bd

theorem down_start {p : Nat} {z : Nat → Int} {to : Nat} {bd : Int} {k : Nat} (h : Climb (2 ^ p) p z to bd k) (hk : k ≠ 1) (hodd : k % 2 = 1) (hz : bd ≤ z (k - 1)) : Down (2 ^ p) p z to bd (k - 1) := by
  obtain ⟨q, s, hp, h1, h2, h3, h4, h5⟩ := h
  have hq : q ≠ 0 := by intro e; subst e; simp at h1 h2; omega
  obtain ⟨q', rfl⟩ : ∃ q', q = q' + 1 := ⟨q - 1, by omega⟩
  have e6 : 2 ^ (q' + 1) = 2 * (2 ^ q') := by rw [Nat.pow_succ]; omega
  have hkk : k - 1 + 1 = k := by omega
  refine ⟨q' + 1, s, hp, by omega, by omega, hz, ?_, ?_⟩
  · rw [hkk]; exact Nat.le_trans h3 (Nat.sub_le _ _)
  · rw [hkk]; exact h5

theorem down_bounds {p : Nat} {z : Nat → Int} {to : Nat} {bd : Int} {k : Nat} (h : Down (2 ^ p) p z to bd k) : 1 ≤ k ∧ k < 2 * 2 ^ p := by
  obtain ⟨q, s, hp, h1, h2, h3, h4, h5⟩ := h
  have : 0 < 2 ^ q := Nat.pos_of_ne_zero (by simp)
  have h6 : 2 ^ (q + 1) ≤ 2 ^ (p + 1) := Nat.pow_le_pow_right (by omega) (by omega)
  have e : 2 ^ (p + 1) = 2 * 2 ^ p := by rw [Nat.pow_succ]; omega
  omega

theorem down_step {p : Nat} {z : Nat → Int} {to : Nat} {bd : Int} {k : Nat} (hh : Heap (2 ^ p) z) (h : Down (2 ^ p) p z to bd k) (hk : k < 2 ^ p) :
    (bd ≤ z (2 * k + 1) → Down (2 ^ p) p z to bd (2 * k + 1)) ∧ (z (2 * k + 1) < bd → Down (2 ^ p) p z to bd (2 * k)) := by
  obtain ⟨q, s, hp, h1, h2, h3, h4, h5⟩ := h
  have hs : s ≠ 0 := by
    intro e; subst e
    have : q = p := by omega
    subst this; omega
  obtain ⟨s', rfl⟩ : ∃ s', s = s' + 1 := ⟨s - 1, by omega⟩
  have e2 : (k + 1) * 2 ^ (s' + 1) = (2 * k + 1 + 1) * 2 ^ s' := by
    rw [Nat.pow_succ, Nat.mul_comm (2 ^ s') 2, ← Nat.mul_assoc]; congr 1; omega
  have e3 : (2 * k + 1 + 1) * 2 ^ s' = (2 * k + 1) * 2 ^ s' + 2 ^ s' := by rw [Nat.add_mul (2 * k + 1) 1]; omega
  have e5 : 2 ^ (q + 1 + 1) = 2 * 2 ^ (q + 1) := by rw [Nat.pow_succ]; omega
  have e6 : 2 ^ (q + 1) = 2 * 2 ^ q := by rw [Nat.pow_succ]; omega
  have hq : 0 < 2 ^ q := Nat.pos_of_ne_zero (by simp)
  have hp' : 0 < 2 ^ s' := Nat.pos_of_ne_zero (by simp)
  have ht := top hp h2
  have hmax := hh k (by omega) hk
  refine ⟨fun hz => ⟨q + 1, s', by omega, by omega, by omega, hz, by omega, fun x hx1 hx2 => h5 x (by omega) hx2⟩, fun hz => ⟨q + 1, s', by omega, by omega, by omega, ?_, by omega, fun x hx1 hx2 => ?_⟩⟩
  · rw [hmax] at h3
    rcases mx_cases _ _ _ h3 with h | h
    · exact h
    · omega
  · by_cases hx : (k + 1) * 2 ^ (s' + 1) ≤ x
    · exact h5 x hx hx2
    · have := cover hh s' (2 * k + 1) (by omega) (by omega) x hx1 (by omega)
      omega

/-- At a leaf. -/
theorem down_end {p : Nat} {z : Nat → Int} {to : Nat} {bd : Int} {k : Nat} (h : Down (2 ^ p) p z to bd k) (hk : 2 ^ p ≤ k) : bd ≤ z k ∧ k < 2 ^ p + to ∧ ∀ x, k < x → x < 2 ^ p + to → z x < bd := by
  obtain ⟨q, s, hp, h1, h2, h3, h4, h5⟩ := h
  have hq : q = p := by
    by_cases h : q < p
    · have : 2 ^ (q + 1) ≤ 2 ^ p := Nat.pow_le_pow_right (by omega) (by omega)
      omega
    · omega
  subst hq
  have : s = 0 := by omega
  subst this
  simp at h4 h5
  exact ⟨h3, by omega, fun x h1 h2 => h5 x (by omega) h2⟩

/-- A number n with n & (n-1) = 0 is a power of two. -/
theorem pow_of_and : ∀ (f n : Nat), n ≤ f → 1 ≤ n → n &&& (n - 1) = 0 → ∃ p, n = 2 ^ p := by
  intro f
  induction f with
  | zero => intro n h1 h2; omega
  | succ f ih =>
    intro n hf h1 h
    by_cases h1' : n = 1
    · exact ⟨0, h1'⟩
    · have hd : (n &&& (n - 1)) / 2 = 0 := by rw [h]
      rw [Nat.and_div_two] at hd
      rcases Nat.mod_two_eq_zero_or_one n with h0 | h0
      · have e : (n - 1) / 2 = n / 2 - 1 := by omega
        rw [e] at hd
        obtain ⟨p, hp⟩ := ih (n / 2) (by omega) (by omega) hd
        exact ⟨p + 1, by rw [Nat.pow_succ]; omega⟩
      · have e : (n - 1) / 2 = n / 2 := by omega
        rw [e, Nat.and_self] at hd
        omega

end Go.Proofs.Qxb6601371a
