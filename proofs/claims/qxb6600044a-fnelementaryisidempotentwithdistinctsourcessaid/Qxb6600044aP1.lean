/-! The plain mathematics of the script: no Go in sight. -/
namespace Go.Proofs.Qxb6600044a

/-- Walking the script forward over the first k operations, for the keys of kind id: the last read, and the appends since. -/
def fwd (K : Nat → Int) (R : Nat → Bool) (E : Nat → Int) (id : Int) : Nat → Option Nat × List Int
  | 0 => (none, [])
  | k + 1 => if K k % 4 = id then (if R k = true then (some k, []) else ((fwd K R E id k).1, (fwd K R E id k).2 ++ [E k])) else fwd K R E id k

/-- The last operation of kind id among the first k, or -1. -/
def lastOf (K : Nat → Int) (id : Int) : Nat → Int
  | 0 => -1
  | k + 1 => if K k % 4 = id then (k : Int) else lastOf K id k

theorem fwd_skip (K : Nat → Int) (R : Nat → Bool) (E : Nat → Int) (id : Int) (k : Nat) (h : ¬ K k % 4 = id) : fwd K R E id (k + 1) = fwd K R E id k := by
  simp [fwd, h]
theorem fwd_read (K : Nat → Int) (R : Nat → Bool) (E : Nat → Int) (id : Int) (k : Nat) (h : K k % 4 = id) (hr : R k = true) : fwd K R E id (k + 1) = (some k, []) := by
  simp [fwd, h, hr]
theorem fwd_app (K : Nat → Int) (R : Nat → Bool) (E : Nat → Int) (id : Int) (k : Nat) (h : K k % 4 = id) (hr : R k = false) : fwd K R E id (k + 1) = ((fwd K R E id k).1, (fwd K R E id k).2 ++ [E k]) := by
  simp [fwd, h, hr]

theorem fwd_len (K : Nat → Int) (R : Nat → Bool) (E : Nat → Int) (id : Int) (k : Nat) : (fwd K R E id k).2.length ≤ k := by
  induction k with
  | zero => simp [fwd]
  | succ k ih =>
    by_cases h : K k % 4 = id
    · cases hr : R k
      · rw [fwd_app _ _ _ _ _ h hr]; simp; omega
      · rw [fwd_read _ _ _ _ _ h hr]; simp
    · rw [fwd_skip _ _ _ _ _ h]; omega

theorem fwd_lt (K : Nat → Int) (R : Nat → Bool) (E : Nat → Int) (id : Int) (k p : Nat) (h : (fwd K R E id k).1 = some p) : p < k := by
  induction k with
  | zero => simp [fwd] at h
  | succ k ih =>
    by_cases hk : K k % 4 = id
    · cases hr : R k
      · rw [fwd_app _ _ _ _ _ hk hr] at h; have := ih h; omega
      · rw [fwd_read _ _ _ _ _ hk hr] at h; simp at h; omega
    · rw [fwd_skip _ _ _ _ _ hk] at h; have := ih h; omega

theorem lastOf_lt (K : Nat → Int) (id : Int) (k : Nat) : -1 ≤ lastOf K id k ∧ lastOf K id k < k := by
  induction k with
  | zero => simp [lastOf]
  | succ k ih =>
    simp only [lastOf]
    split <;> omega

theorem lastOf_key (K : Nat → Int) (id : Int) (k : Nat) (h : 0 ≤ lastOf K id k) : K (lastOf K id k).toNat % 4 = id := by
  induction k with
  | zero => simp [lastOf] at h
  | succ k ih =>
    simp only [lastOf] at h ⊢
    split
    · rename_i e; simpa using e
    · rename_i e; rw [if_neg e] at h; exact ih h

/-- Nothing of that kind lies between the last one and here. -/
theorem fwd_last (K : Nat → Int) (R : Nat → Bool) (E : Nat → Int) (id : Int) (k : Nat) : fwd K R E id k = fwd K R E id (lastOf K id k + 1).toNat := by
  induction k with
  | zero => simp [lastOf]
  | succ k ih =>
    by_cases h : K k % 4 = id
    · have : lastOf K id (k + 1) = (k : Int) := by simp [lastOf, h]
      rw [this]
      congr 1
    · have : lastOf K id (k + 1) = lastOf K id k := by simp [lastOf, h]
      rw [this, ← ih, fwd_skip _ _ _ _ _ h]

/-- The way back from j: p is where it stands, s what it has gathered, the last first. -/
def Back (K : Nat → Int) (R : Nat → Bool) (E : Nat → Int) (id : Int) (j : Nat) (p : Int) (s : List Int) : Prop :=
  -1 ≤ p ∧ p < j ∧ (0 ≤ p → K p.toNat % 4 = id) ∧ (fwd K R E id j).1 = (fwd K R E id (p + 1).toNat).1 ∧ (fwd K R E id j).2 = (fwd K R E id (p + 1).toNat).2 ++ s.reverse

theorem back_start (K : Nat → Int) (R : Nat → Bool) (E : Nat → Int) (id : Int) (j : Nat) : Back K R E id j (lastOf K id j) [] := by
  refine ⟨(lastOf_lt K id j).1, (lastOf_lt K id j).2, lastOf_key K id j, ?_, ?_⟩
  · rw [← fwd_last]
  · rw [← fwd_last]; simp

theorem back_step (K : Nat → Int) (R : Nat → Bool) (E : Nat → Int) (id : Int) (j p : Nat) (s : List Int) (h : Back K R E id j p s) (hr : R p = false) :
    Back K R E id j (lastOf K id p) (s ++ [E p]) := by
  obtain ⟨h1, h2, h3, h4, h5⟩ := h
  have hk : K p % 4 = id := by simpa using h3 (by omega)
  have e1 : ((p : Int) + 1).toNat = p + 1 := by omega
  rw [e1, fwd_app _ _ _ _ _ hk hr] at h4 h5
  have hl := lastOf_lt K id p
  refine ⟨hl.1, by omega, lastOf_key K id p, ?_, ?_⟩
  · rw [h4, ← fwd_last]
  · rw [h5, ← fwd_last]; simp

theorem back_len (K : Nat → Int) (R : Nat → Bool) (E : Nat → Int) (id : Int) (j : Nat) (p : Int) (s : List Int) (h : Back K R E id j p s) : s.length ≤ j := by
  have h5 := congrArg List.length h.2.2.2.2
  have := fwd_len K R E id j
  simp at h5
  omega

theorem back_none (K : Nat → Int) (R : Nat → Bool) (E : Nat → Int) (id : Int) (j : Nat) (p : Int) (s : List Int) (h : Back K R E id j p s) (hp : p < 0) : fwd K R E id j = (none, s.reverse) := by
  obtain ⟨h1, h2, h3, h4, h5⟩ := h
  have e : (p + 1).toNat = 0 := by omega
  rw [e] at h4 h5
  exact Prod.ext h4 (by simpa [fwd] using h5)

theorem back_read (K : Nat → Int) (R : Nat → Bool) (E : Nat → Int) (id : Int) (j p : Nat) (s : List Int) (h : Back K R E id j p s) (hr : R p = true) : fwd K R E id j = (some p, s.reverse) := by
  obtain ⟨h1, h2, h3, h4, h5⟩ := h
  have hk : K p % 4 = id := by simpa using h3 (by omega)
  have e1 : ((p : Int) + 1).toNat = p + 1 := by omega
  rw [e1, fwd_read _ _ _ _ _ hk hr] at h4 h5
  exact Prod.ext h4 (by simpa using h5)

end Go.Proofs.Qxb6600044a
