import Derived.Test.Qxb6601371aP1
/-! The plain mathematics of covers: no Go in sight. -/
namespace Go.Proofs.Qxb6601371a

/-- Latest first: how many are seen, and is one found? -/
def scan (g ok : Nat → Bool) (fr : Nat) : Nat → Nat × Bool
  | 0 => (0, false)
  | p + 1 => if p < fr then (0, false) else if g p = true then (if ok p = true then (1, true) else ((scan g ok fr p).1 + 1, (scan g ok fr p).2)) else scan g ok fr p
theorem scan_low {g ok : Nat → Bool} {fr p : Nat} (h : p ≤ fr) : scan g ok fr p = (0, false) := by
  cases p with
  | zero => rfl
  | succ p => rw [scan, if_pos (by omega)]
theorem scan_skip {g ok : Nat → Bool} {fr p : Nat} (h : g p = false) (hp : fr ≤ p) : scan g ok fr (p + 1) = scan g ok fr p := by
  rw [scan, if_neg (by omega), if_neg (by rw [h]; decide)]
theorem scan_hit {g ok : Nat → Bool} {fr p : Nat} (h : g p = true) (hp : fr ≤ p) (ho : ok p = true) : scan g ok fr (p + 1) = (1, true) := by
  rw [scan, if_neg (by omega), if_pos h, if_pos ho]
theorem scan_miss {g ok : Nat → Bool} {fr p : Nat} (h : g p = true) (hp : fr ≤ p) (ho : ok p = false) : scan g ok fr (p + 1) = ((scan g ok fr p).1 + 1, (scan g ok fr p).2) := by
  rw [scan, if_neg (by omega), if_pos h, if_neg (by rw [ho]; decide)]
theorem scan_pos {g ok : Nat → Bool} {fr : Nat} : ∀ p, (scan g ok fr p).2 = true → 1 ≤ (scan g ok fr p).1 := by
  intro p
  induction p with
  | zero => intro h; cases h
  | succ p ih =>
    intro h
    rw [scan] at h ⊢
    split at h
    · cases h
    · rename_i h1
      rw [if_neg h1]
      split at h
      · rename_i h2
        rw [if_pos h2]
        split at h
        · rename_i h3; rw [if_pos h3]; exact Nat.le_refl _
        · rename_i h3; rw [if_neg h3]; exact Nat.le_add_left _ _
      · rename_i h2
        rw [if_neg h2]
        exact ih h
theorem scan_len {g ok : Nat → Bool} {fr : Nat} : ∀ p, (scan g ok fr p).1 ≤ p := by
  intro p
  induction p with
  | zero => exact Nat.le_refl _
  | succ p ih =>
    rw [scan]
    split
    · exact Nat.zero_le _
    · split
      · split
        · show 1 ≤ p + 1; omega
        · show (scan g ok fr p).1 + 1 ≤ p + 1; omega
      · omega

/-- Nothing from i + 1 on. -/
theorem scan_from {g ok : Nat → Bool} {fr i : Nat} (hi : fr ≤ i) : ∀ t, i + 1 ≤ t → (∀ j, i < j → j < t → g j = false) → scan g ok fr t = scan g ok fr (i + 1) := by
  intro t
  induction t with
  | zero => intro h; omega
  | succ t ih =>
    intro h1 h2
    by_cases e : t = i
    · subst e; rfl
    · rw [scan_skip (h2 t (by omega) (by omega)) (by omega)]
      exact ih (by omega) (fun j a b => h2 j a (by omega))
theorem scan_none {g ok : Nat → Bool} {fr : Nat} : ∀ t, (∀ j, fr ≤ j → j < t → g j = false) → scan g ok fr t = (0, false) := by
  intro t
  induction t with
  | zero => intro _; rfl
  | succ t ih =>
    intro h
    by_cases e : t < fr
    · exact scan_low (by omega)
    · rw [scan_skip (h t (by omega) (by omega)) (by omega)]
      exact ih (fun j a b => h j a (by omega))

/-- What covers answers, and the steps left. -/
def cov (s : Int) (q : Nat × Bool) : Bool × Int :=
  (q.2 && decide ((q.1 : Int) ≤ s), if q.2 = true ∧ (q.1 : Int) ≤ s then s - q.1 else if q.2 = false ∧ (q.1 : Int) < s then s - q.1 - 1 else -1)
theorem cov_spent {s : Int} {q : Nat × Bool} (hs : s ≤ 0) (hp : q.2 = true → 1 ≤ q.1) : cov s q = (false, -1) := by
  obtain ⟨n, f⟩ := q
  cases f
  · simp [cov]; omega
  · have := hp rfl
    simp at this
    simp [cov]
    omega
theorem cov_none {s : Int} (hs : 0 < s) : cov s (0, false) = (false, s - 1) := by simp [cov]; omega
theorem cov_hit {s : Int} (hs : 0 < s) : cov s (1, true) = (true, s - 1) := by
  have : (1 : Int) ≤ s := by omega
  simp [cov, this]
theorem cov_miss {s : Int} (n : Nat) (f : Bool) : cov s (n + 1, f) = cov (s - 1) (n, f) := by
  have e1 : decide (((n + 1 : Nat) : Int) ≤ s) = decide ((n : Int) ≤ s - 1) := decide_eq_decide.2 (by omega)
  apply Prod.ext
  · show (f && decide (((n + 1 : Nat) : Int) ≤ s)) = (f && decide ((n : Int) ≤ s - 1))
    rw [e1]
  · show (if f = true ∧ ((n + 1 : Nat) : Int) ≤ s then s - ((n + 1 : Nat) : Int) else if f = false ∧ ((n + 1 : Nat) : Int) < s then s - ((n + 1 : Nat) : Int) - 1 else -1) = (if f = true ∧ (n : Int) ≤ s - 1 then s - 1 - (n : Int) else if f = false ∧ (n : Int) < s - 1 then s - 1 - (n : Int) - 1 else -1)
    by_cases h1 : f = true ∧ ((n + 1 : Nat) : Int) ≤ s
    · rw [if_pos h1, if_pos ⟨h1.1, by omega⟩]; omega
    · have k1 : ¬ (f = true ∧ (n : Int) ≤ s - 1) := fun h => h1 ⟨h.1, by omega⟩
      rw [if_neg h1, if_neg k1]
      by_cases h2 : f = false ∧ ((n + 1 : Nat) : Int) < s
      · rw [if_pos h2, if_pos ⟨h2.1, by omega⟩]; omega
      · have k2 : ¬ (f = false ∧ (n : Int) < s - 1) := fun h => h2 ⟨h.1, by omega⟩
        rw [if_neg h2, if_neg k2]

def gB (z : Nat → Int) (l : Nat) (bd : Int) (j : Nat) : Bool := decide (bd ≤ z (l + j))
theorem last_scan {z : Nat → Int} {l : Nat} {bd : Int} {ok : Nat → Bool} {fr tt : Nat} {r : Int} (h : IsLast l z fr tt bd r) :
    (r = -1 ∧ scan (gB z l bd) ok fr tt = (0, false)) ∨ ∃ i : Nat, r = i ∧ fr ≤ i ∧ i < tt ∧ scan (gB z l bd) ok fr tt = if ok i = true then (1, true) else ((scan (gB z l bd) ok fr i).1 + 1, (scan (gB z l bd) ok fr i).2) := by
  rcases h with ⟨e, h⟩ | ⟨i, e, h1, h2, h3, h4⟩
  · exact .inl ⟨e, scan_none tt (fun j a b => decide_eq_false (Int.not_le.2 (h j (by omega) b)))⟩
  · refine .inr ⟨i, e, by omega, h2, ?_⟩
    rw [scan_from (g := gB z l bd) (ok := ok) (fr := fr) (i := i) (by omega) tt (by omega) (fun j a b => decide_eq_false (Int.not_le.2 (h4 j a b)))]
    have hg : gB z l bd i = true := decide_eq_true h3
    cases ho : ok i
    · rw [scan_miss hg (by omega) ho]; simp
    · rw [scan_hit hg (by omega) ho]; simp
end Go.Proofs.Qxb6601371a
