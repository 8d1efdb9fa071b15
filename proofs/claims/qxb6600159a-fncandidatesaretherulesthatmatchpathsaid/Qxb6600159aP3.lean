/-! The plain mathematics of the merge sort: no Go in sight. -/
namespace Go.Proofs.Qxb6600159a

/-- Sorted within each block of W. -/
def BSorted (n W : Nat) (f : Nat → Int) : Prop := ∀ p q, p ≤ q → q < n → p / W = q / W → f p ≤ f q
/-- The same numbers below n. -/
def SameSet (n : Nat) (f g : Nat → Int) : Prop := ∀ x, (∃ p, p < n ∧ f p = x) ↔ (∃ p, p < n ∧ g p = x)
def fSet (G : Nat → Int) (k : Nat) (x : Int) (p : Nat) : Int := if p = k then x else G p

theorem BSorted.one (n : Nat) (f : Nat → Int) : BSorted n 1 f := by
  intro p q _ _ h
  simp at h
  subst h
  exact Int.le_refl _

theorem BSorted.full {n W : Nat} {f : Nat → Int} (h : BSorted n W f) (hW : n ≤ W) : ∀ p q, p ≤ q → q < n → f p ≤ f q := by
  intro p q h1 h2
  refine h p q h1 h2 ?_
  rw [Nat.div_eq_of_lt (by omega), Nat.div_eq_of_lt (by omega)]

/-- One merge under way: src f, dst G, between lo and hi. -/
structure MInv (f G G0 : Nat → Int) (lo mid hi i j k : Nat) : Prop where
  li : lo ≤ i
  im : i ≤ mid
  mj : mid ≤ j
  jh : j ≤ hi
  kk : k + mid = i + j
  low : ∀ p, p < lo → G p = G0 p
  srt : ∀ p q, lo ≤ p → p ≤ q → q < k → G p ≤ G q
  bi : ∀ p q, lo ≤ p → p < k → i ≤ q → q < mid → G p ≤ f q
  bj : ∀ p q, lo ≤ p → p < k → j ≤ q → q < hi → G p ≤ f q
  set : ∀ x, (∃ p, lo ≤ p ∧ p < k ∧ G p = x) ↔ ((∃ p, lo ≤ p ∧ p < i ∧ f p = x) ∨ (∃ p, mid ≤ p ∧ p < j ∧ f p = x))

theorem MInv.start (f G : Nat → Int) {lo mid hi : Nat} (h1 : lo ≤ mid) (h2 : mid ≤ hi) : MInv f G G lo mid hi lo mid lo where
  li := Nat.le_refl _
  im := h1
  mj := Nat.le_refl _
  jh := h2
  kk := rfl
  low := fun _ _ => rfl
  srt := fun p q h1 h2 h3 => by omega
  bi := fun p q h1 h2 => by omega
  bj := fun p q h1 h2 => by omega
  set := fun x => by
    constructor
    · rintro ⟨p, h1, h2, _⟩; omega
    · rintro (⟨p, h1, h2, _⟩ | ⟨p, h1, h2, _⟩) <;> omega

/-- f is sorted between a and b. -/
def Seg (f : Nat → Int) (a b : Nat) : Prop := ∀ p q, a ≤ p → p ≤ q → q < b → f p ≤ f q

theorem MInv.stepI {f G G0 : Nat → Int} {lo mid hi i j k : Nat} (h : MInv f G G0 lo mid hi i j k) (s1 : Seg f lo mid) (s2 : Seg f mid hi) (hi1 : i < mid) (hc : hi ≤ j ∨ f i ≤ f j) : MInv f (fSet G k (f i)) G0 lo mid hi (i + 1) j (k + 1) := by
  obtain ⟨h1, h2, h3, h4, h5, h6, h7, h8, h9, h10⟩ := h
  have hne : ∀ p, p < k → fSet G k (f i) p = G p := fun p hp => by simp [fSet, show p ≠ k by omega]
  have hk : fSet G k (f i) k = f i := by simp [fSet]
  have hfj : ∀ q, j ≤ q → q < hi → f i ≤ f q := fun q hq1 hq2 => by
    rcases hc with hc | hc
    · omega
    · exact Int.le_trans hc (s2 j q h3 hq1 hq2)
  refine ⟨by omega, by omega, h3, h4, by omega, fun p hp => ?_, fun p q hp hq hqk => ?_, fun p q hp hpk hq hqm => ?_, fun p q hp hpk hq hqh => ?_, fun x => ?_⟩
  · rw [hne p (by omega)]; exact h6 p hp
  · by_cases e : q = k
    · subst e
      rw [hk]
      by_cases e2 : p = q
      · subst e2; rw [hk]; exact Int.le_refl _
      · rw [hne p (by omega)]; exact h8 p i hp (by omega) (Nat.le_refl _) hi1
    · rw [hne p (by omega), hne q (by omega)]; exact h7 p q hp hq (by omega)
  · by_cases e : p = k
    · subst e; rw [hk]; exact s1 i q h1 (by omega) hqm
    · rw [hne p (by omega)]; exact h8 p q hp (by omega) (by omega) hqm
  · by_cases e : p = k
    · subst e; rw [hk]; exact hfj q hq hqh
    · rw [hne p (by omega)]; exact h9 p q hp (by omega) hq hqh
  · constructor
    · rintro ⟨p, hp1, hp2, rfl⟩
      by_cases e : p = k
      · subst e; rw [hk]; exact .inl ⟨i, h1, by omega, rfl⟩
      · rw [hne p (by omega)]
        rcases (h10 (G p)).1 ⟨p, hp1, by omega, rfl⟩ with ⟨r, r1, r2, r3⟩ | hr
        · exact .inl ⟨r, r1, by omega, r3⟩
        · exact .inr hr
    · rintro (⟨p, hp1, hp2, rfl⟩ | hr)
      · by_cases e : p = i
        · subst e; exact ⟨k, by omega, by omega, hk⟩
        · obtain ⟨r, r1, r2, r3⟩ := (h10 (f p)).2 (.inl ⟨p, hp1, by omega, rfl⟩)
          exact ⟨r, r1, by omega, by rw [hne r r2]; exact r3⟩
      · obtain ⟨r, r1, r2, r3⟩ := (h10 x).2 (.inr hr)
        exact ⟨r, r1, by omega, by rw [hne r r2]; exact r3⟩

theorem MInv.stepJ {f G G0 : Nat → Int} {lo mid hi i j k : Nat} (h : MInv f G G0 lo mid hi i j k) (s1 : Seg f lo mid) (s2 : Seg f mid hi) (hj1 : j < hi) (hc : mid ≤ i ∨ f j < f i) : MInv f (fSet G k (f j)) G0 lo mid hi i (j + 1) (k + 1) := by
  obtain ⟨h1, h2, h3, h4, h5, h6, h7, h8, h9, h10⟩ := h
  have hne : ∀ p, p < k → fSet G k (f j) p = G p := fun p hp => by simp [fSet, show p ≠ k by omega]
  have hk : fSet G k (f j) k = f j := by simp [fSet]
  have hfi : ∀ q, i ≤ q → q < mid → f j ≤ f q := fun q hq1 hq2 => by
    rcases hc with hc | hc
    · omega
    · exact Int.le_trans (Int.le_of_lt hc) (s1 i q h1 hq1 hq2)
  refine ⟨h1, h2, by omega, by omega, by omega, fun p hp => ?_, fun p q hp hq hqk => ?_, fun p q hp hpk hq hqm => ?_, fun p q hp hpk hq hqh => ?_, fun x => ?_⟩
  · rw [hne p (by omega)]; exact h6 p hp
  · by_cases e : q = k
    · subst e
      rw [hk]
      by_cases e2 : p = q
      · subst e2; rw [hk]; exact Int.le_refl _
      · rw [hne p (by omega)]; exact h9 p j hp (by omega) (Nat.le_refl _) hj1
    · rw [hne p (by omega), hne q (by omega)]; exact h7 p q hp hq (by omega)
  · by_cases e : p = k
    · subst e; rw [hk]; exact hfi q hq hqm
    · rw [hne p (by omega)]; exact h8 p q hp (by omega) hq hqm
  · by_cases e : p = k
    · subst e; rw [hk]; exact s2 j q h3 (by omega) hqh
    · rw [hne p (by omega)]; exact h9 p q hp (by omega) (by omega) hqh
  · constructor
    · rintro ⟨p, hp1, hp2, rfl⟩
      by_cases e : p = k
      · subst e; rw [hk]; exact .inr ⟨j, h3, by omega, rfl⟩
      · rw [hne p (by omega)]
        rcases (h10 (G p)).1 ⟨p, hp1, by omega, rfl⟩ with hr | ⟨r, r1, r2, r3⟩
        · exact .inl hr
        · exact .inr ⟨r, r1, by omega, r3⟩
    · rintro (hr | ⟨p, hp1, hp2, rfl⟩)
      · obtain ⟨r, r1, r2, r3⟩ := (h10 x).2 (.inl hr)
        exact ⟨r, r1, by omega, by rw [hne r r2]; exact r3⟩
      · by_cases e : p = j
        · subst e; exact ⟨k, by omega, by omega, hk⟩
        · obtain ⟨r, r1, r2, r3⟩ := (h10 (f p)).2 (.inr ⟨p, hp1, by omega, rfl⟩)
          exact ⟨r, r1, by omega, by rw [hne r r2]; exact r3⟩

/-- The first m places of dst are merged. -/
def LoInv (W : Nat) (f G : Nat → Int) (m : Nat) : Prop :=
  (∀ p q, p ≤ q → q < m → p / (2 * W) = q / (2 * W) → G p ≤ G q) ∧ ∀ x, (∃ p, p < m ∧ G p = x) ↔ (∃ p, p < m ∧ f p = x)

theorem LoInv.zero (W : Nat) (f G : Nat → Int) : LoInv W f G 0 := ⟨fun p q h1 h2 => by omega, fun x => ⟨fun ⟨p, hp, _⟩ => by omega, fun ⟨p, hp, _⟩ => by omega⟩⟩

theorem LoInv.next {W t : Nat} {f G G0 : Nat → Int} {mid hi : Nat} (hW : 0 < W) (h : LoInv W f G0 (2 * W * t)) (hm : MInv f G G0 (2 * W * t) mid hi mid hi hi) : LoInv W f G hi := by
  obtain ⟨h1, h2, h3, h4, h5, h6, h7, h8, h9, h10⟩ := hm
  refine ⟨fun p q hpq hq he => ?_, fun x => ?_⟩
  · by_cases e : 2 * W * t ≤ p
    · exact h7 p q e hpq hq
    · by_cases e2 : 2 * W * t ≤ q
      · exfalso
        have a1 : t ≤ q / (2 * W) := (Nat.le_div_iff_mul_le (by omega)).2 (by rw [Nat.mul_comm]; exact e2)
        have a2 : p / (2 * W) < t := (Nat.div_lt_iff_lt_mul (by omega)).2 (by rw [Nat.mul_comm]; omega)
        omega
      · rw [h6 p (by omega), h6 q (by omega)]
        exact h.1 p q hpq (by omega) he
  · constructor
    · rintro ⟨p, hp, rfl⟩
      by_cases e : 2 * W * t ≤ p
      · rcases (h10 (G p)).1 ⟨p, e, hp, rfl⟩ with ⟨r, r1, r2, r3⟩ | ⟨r, r1, r2, r3⟩
        · exact ⟨r, by omega, r3⟩
        · exact ⟨r, by omega, r3⟩
      · rw [h6 p (by omega)]
        obtain ⟨r, r1, r2⟩ := (h.2 (G0 p)).1 ⟨p, by omega, rfl⟩
        exact ⟨r, by omega, r2⟩
    · rintro ⟨p, hp, rfl⟩
      by_cases e : 2 * W * t ≤ p
      · by_cases e2 : p < mid
        · obtain ⟨r, r1, r2, r3⟩ := (h10 (f p)).2 (.inl ⟨p, e, e2, rfl⟩)
          exact ⟨r, r2, r3⟩
        · obtain ⟨r, r1, r2, r3⟩ := (h10 (f p)).2 (.inr ⟨p, by omega, hp, rfl⟩)
          exact ⟨r, r2, r3⟩
      · obtain ⟨r, r1, r2⟩ := (h.2 (f p)).2 ⟨p, by omega, rfl⟩
        exact ⟨r, by omega, by rw [h6 r (by omega)]; exact r2⟩

theorem BSorted.seg {n W s a b : Nat} {f : Nat → Int} (h : BSorted n W f) (ha : a = W * s) (hb : b ≤ a + W) (hn : b ≤ n) : Seg f a b := by
  intro p q h1 h2 h3
  refine h p q h2 (by omega) ?_
  have e : ∀ r, a ≤ r → r < a + W → r / W = s := fun r hr1 hr2 => by
    apply Nat.div_eq_of_lt_le
    · rw [Nat.mul_comm, ← ha]; exact hr1
    · rw [Nat.add_mul, Nat.one_mul, Nat.mul_comm, ← ha]; exact hr2
  rw [e p h1 (by omega), e q (by omega) (by omega)]

theorem SameSet.trans {n : Nat} {f g h : Nat → Int} (h1 : SameSet n f g) (h2 : SameSet n g h) : SameSet n f h := fun x => (h1 x).trans (h2 x)
theorem LoInv.done {n W : Nat} {f G : Nat → Int} (h : LoInv W f G n) : BSorted n (2 * W) G ∧ SameSet n G f := ⟨h.1, h.2⟩
end Go.Proofs.Qxb6600159a
