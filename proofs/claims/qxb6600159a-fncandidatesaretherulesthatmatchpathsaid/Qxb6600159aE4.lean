import Derived.Test.Qxb6600159aE3
namespace Go.Proofs.Qxb6600159a
open Go.RowKit Go.Maps
set_option linter.unusedVariables false

theorem zz30 (w : World) (R X : Nat) (path : ByteArray) (M : Int → Prop) (tot : Nat) (h : Calls Try.prog 42 #[.pointer (some ⟨R, 0, none⟩), .pointer (some ⟨X, 0, none⟩), .string path] w (CandsPost w X M tot)) :
    Calls Try.prog 30 #[.pointer (some ⟨R, 0, none⟩), .pointer (some ⟨X, 0, none⟩), .string path] w (CandsPost w X M tot) := by
  have C := hid h
  clear h
  go_enter Try.func30, Try.ntmps30
  go_wp2_with fail
  refine C.out.mono ?_
  rintro e w' ⟨rfl, h⟩
  have H := hid h
  clear h
  go_wp2_with fail
  go_end0
  exact ⟨rfl, H.out⟩

/-- What drain gives of such candidates. -/
def DrainM (w : World) (X : Nat) (M : Int → Prop) (lim : Nat) (e : Ending) (w' : World) : Prop :=
  ∃ v o, e = .returned (.tuple #[v, .bool true]) ∧ IntsF w.heap.size w' v o ∧ Below X w w' ∧ o.length ≤ lim + 1 ∧ o.Pairwise (· < ·) ∧ ∀ x, x ∈ o ↔ M x

theorem lenS_at {P : Nat → List Int} {T j : Nat} (h : j < T) : (P j).length ≤ lenS P T := by
  rw [lenS_sumL]; exact sumL_le P h

theorem drainS (w : World) (X : Nat) (M : Int → Prop) (tot lim : Nat) (h : AddSt w X M tot) (ht : tot ≤ lim) (hl : lim ≤ 1048576) : Calls Try.prog 13 #[.pointer (some ⟨X, 0, none⟩), .int .i64 (lim : Int)] w (DrainM w X M lim) := by
  obtain ⟨T, P, U, mv, h1, h2, h3, h4, h5, h6⟩ := h
  refine (drain13 w X T lim U mv P h1 (by omega) hl h2 (fun j hj => by have := lenS_at (P := P) hj; omega) (fun j hj => asc_nonneg (h3 j hj))).mono fun e w' hp => ?_
  obtain ⟨v, o, b, rfl, hv, hb, hlo, hres⟩ := hp
  have R0 : Run P T 0 := Run.zero (fun j hj => asc_pairwise (h3 j hj)) (fun j hj => asc_nonneg (h3 j hj))
  rcases hres with ⟨rfl, s, hs, rfl, g1, g2⟩ | ⟨rfl, g1⟩
  · have R := R0.all s g1
    exact ⟨v, _, rfl, hv, hb, hlo, R.out, fun x => (R.done g2 x).trans (h4 x)⟩
  · exfalso
    have R := R0.all (lim + 1) (fun r hr => g1 r (by omega))
    have := R.len
    omega

/-- The row of wanted lists: its members are M. -/
def WSt (w0 wr : World) (v : Value) (M : Int → Prop) (cnt tot : Nat) : Prop :=
  ∃ (T : Nat) (U : Nat → Value) (P : Nat → List Int), wr.ownsRow w0.heap.size 26 1 v T ((List.range T).map U) ∧ (∀ j, j < T → IntsF 0 w0 (U j) (P j)) ∧ (∀ x, (∃ j, j < T ∧ x ∈ P j) ↔ M x) ∧ T ≤ cnt ∧ sumL P T ≤ tot
theorem WSt.congr {w0 wr : World} {v : Value} {M M' : Int → Prop} {cnt cnt' tot tot' : Nat} (h : WSt w0 wr v M cnt tot) (hM : ∀ x, M x ↔ M' x) (hc : cnt ≤ cnt') (ht : tot ≤ tot') : WSt w0 wr v M' cnt' tot' := by
  obtain ⟨T, U, P, h1, h2, h3, h4, h5⟩ := h
  exact ⟨T, U, P, h1, h2, fun x => (h3 x).trans (hM x), by omega, by omega⟩
theorem WSt.drewN {w0 wr : World} {v : Value} {M : Int → Prop} {cnt tot : Nat} (h : WSt w0 wr v M cnt tot) (m : Nat) : WSt w0 (wr.drewN m) v M cnt tot := by
  obtain ⟨T, U, P, h1, h2, h3, h4, h5⟩ := h
  exact ⟨T, U, P, h1, h2, h3, h4, h5⟩
theorem sumL_congr {P P' : Nat → List Int} {n : Nat} (h : ∀ i, i < n → P i = P' i) : sumL P n = sumL P' n := by
  rw [← lenS_sumL, ← lenS_sumL]; exact lenS_congr h
theorem range_snoc (T : Nat) (U : Nat → Value) (v : Value) : (List.range (T + 1)).map (vSet U T v) = (List.range T).map U ++ [v] := by
  rw [List.range_succ, List.map_append]
  congr 1
  · apply List.map_congr_left
    intro i hi
    have := List.mem_range.1 hi
    simp [vSet]
    omega
  · simp [vSet]

/-- What one append does to it. -/
theorem WSt.app {w0 wr w1 : World} {v v' : Value} {M : Int → Prop} {cnt tot T : Nat} {U : Nat → Value} {P : Nat → List Int} {o : Obj} {x : Value} {q : List Int} (h1 : wr.ownsRow w0.heap.size 26 1 v T ((List.range T).map U)) (h2 : ∀ j, j < T → IntsF 0 w0 (U j) (P j)) (h3 : ∀ y, (∃ j, j < T ∧ y ∈ P j) ↔ M y)
    (h4 : T ≤ cnt) (h5 : sumL P T ≤ tot) (hx : IntsF 0 w0 x q) (hb : Below w0.heap.size w0 wr) (hown : w1.ownsRow w0.heap.size 26 1 v' (T + 1) ((List.range T).map U ++ [x])) (hg : (wr.alloc o).grownBy w1 v.ownBlock) :
    WSt w0 w1 v' (fun y => M y ∨ y ∈ q) (cnt + 1) (tot + q.length) ∧ Below w0.heap.size w0 w1 := by
  have e1 : lSet P T q T = q := by simp [lSet]
  have e2 : ∀ j, j < T → lSet P T q j = P j := fun j hj => by simp [lSet]; omega
  have e3 : vSet U T x T = x := by simp [vSet]
  have e4 : ∀ j, j < T → vSet U T x j = U j := fun j hj => by simp [vSet]; omega
  have hs := hb.size
  refine ⟨⟨T + 1, vSet U T x, lSet P T q, by rw [range_snoc]; exact hown, fun j hj => ?_, fun y => ?_, by omega, ?_⟩, (hb.alloc (by omega) o).grown hg (by simp; omega) (fun k hk => (h1.lt k hk).1)⟩
  · by_cases e : j = T
    · subst e; rw [e1, e3]; exact hx
    · rw [e2 j (by omega), e4 j (by omega)]; exact h2 j (by omega)
  · show _ ↔ (M y ∨ y ∈ q)
    rw [← h3 y]
    constructor
    · rintro ⟨j, hj, hy⟩
      by_cases e : j = T
      · subst e; rw [e1] at hy; exact .inr hy
      · rw [e2 j (by omega)] at hy; exact .inl ⟨j, by omega, hy⟩
    · rintro (⟨j, hj, hy⟩ | hy)
      · exact ⟨j, by omega, by rw [e2 j hj]; exact hy⟩
      · exact ⟨T, by omega, by rw [e1]; exact hy⟩
  · simp only [sumL]
    rw [e1, sumL_congr e2]
    omega

/-- The row as a slice of slices. -/
theorem WSt.ls {w0 wr : World} {v : Value} {M : Int → Prop} {cnt tot : Nat} (h : WSt w0 wr v M cnt tot) (hb : Below w0.heap.size w0 wr) (hc : cnt ≤ 1048576) : ∃ (a : Option Addr) (T c : Nat) (U : Nat → Value) (P : Nat → List Int), v = .slice a T c ∧ Ls wr a T U P ∧ (∀ x, (∃ j, j < T ∧ x ∈ P j) ↔ M x) ∧ T ≤ cnt ∧ sumL P T ≤ tot := by
  obtain ⟨T, U, P, h1, h2, h3, h4, h5⟩ := h
  rcases h1.2 with ⟨rfl, rfl⟩ | ⟨g, cap, cur, rfl, g1, g2, _⟩
  · exact ⟨none, 0, 0, U, P, rfl, ⟨⟨by omega, .inl rfl⟩, fun i hi => by omega⟩, h3, h4, h5⟩
  · refine ⟨some ⟨g, 0, none⟩, T, cap, U, P, rfl, ⟨⟨by omega, .inr ⟨g, 0, rfl, fun i hi => ?_⟩⟩, fun i hi => (h2 i hi).later hb⟩, h3, h4, h5⟩
    have := h1.cells (g := g) rfl i (U i) (by simp [hi])
    rwa [addPlain] at this

/-- Members that come in one after the other. -/
def MM (E : Int → Prop) (C : Nat → Prop) (Q : Nat → List Int) (i : Nat) (x : Int) : Prop := E x ∨ ∃ j, j < i ∧ C j ∧ x ∈ Q j
theorem MM.zero {E : Int → Prop} {C : Nat → Prop} {Q : Nat → List Int} (x : Int) : E x ↔ MM E C Q 0 x := ⟨fun h => .inl h, fun h => h.elim id (fun ⟨j, hj, _⟩ => by omega)⟩
theorem MM.skip {E : Int → Prop} {C : Nat → Prop} {Q : Nat → List Int} {i : Nat} (h : ¬ C i) (x : Int) : MM E C Q i x ↔ MM E C Q (i + 1) x := by
  constructor
  · rintro (h1 | ⟨j, h1, h2⟩)
    · exact .inl h1
    · exact .inr ⟨j, by omega, h2⟩
  · rintro (h1 | ⟨j, h1, h2, h3⟩)
    · exact .inl h1
    · by_cases e : j = i
      · subst e; exact absurd h2 h
      · exact .inr ⟨j, by omega, h2, h3⟩
theorem MM.put {E : Int → Prop} {C : Nat → Prop} {Q : Nat → List Int} {i : Nat} (h : C i) (x : Int) : (MM E C Q i x ∨ x ∈ Q i) ↔ MM E C Q (i + 1) x := by
  constructor
  · rintro ((h1 | ⟨j, h1, h2⟩) | h1)
    · exact .inl h1
    · exact .inr ⟨j, by omega, h2⟩
    · exact .inr ⟨i, by omega, h, h1⟩
  · rintro (h1 | ⟨j, h1, h2, h3⟩)
    · exact .inl (.inl h1)
    · by_cases e : j = i
      · subst e; exact .inr h3
      · exact .inl (.inr ⟨j, by omega, h2, h3⟩)

/-- The candidates' members are the wanted ones. -/
theorem candM_want (qa : List Int) (S1 S3 : Nat → ByteArray) (Q2 Q4 : Nat → List Int) (ne np : Nat) (p : List UInt8) (x : Int) :
    CandM qa (qOf S1 Q2 ne p) S3 Q4 np p (p.length + 1) x ↔ MM (MM (fun x => x ∈ qa) (fun i => IsLast S1 i ne ∧ (S1 i).data.toList = p) Q2 ne) (fun i => IsLast S3 i np ∧ ElemPre (S3 i).data.toList p) Q4 np x := by
  unfold CandM MM
  rw [qOf_mem]
  constructor
  · rintro (h | ⟨i, h1, h2, h3, h4⟩ | ⟨j, h1, h2, h3, h4⟩)
    · exact .inl (.inl h)
    · exact .inl (.inr ⟨i, h1, ⟨h2, h3⟩, h4⟩)
    · obtain ⟨i, g1, g2, g3, g4⟩ := (qOf_mem _ _ _ _ _).1 h4
      exact .inr ⟨i, g1, ⟨g2, (ends_elem _ _).2 ⟨j, h2, h3, g3.symm⟩⟩, g4⟩
  · rintro ((h | ⟨i, h1, ⟨h2, h3⟩, h4⟩) | ⟨i, h1, ⟨h2, h3⟩, h4⟩)
    · exact .inl h
    · exact .inr (.inl ⟨i, h1, h2, h3, h4⟩)
    · obtain ⟨j, g1, g2, g3⟩ := (ends_elem _ _).1 h3
      exact .inr (.inr ⟨j, by omega, g1, g2, (qOf_mem _ _ _ _ _).2 ⟨i, h1, h2, g3.symm, h4⟩⟩)
end Go.Proofs.Qxb6600159a
