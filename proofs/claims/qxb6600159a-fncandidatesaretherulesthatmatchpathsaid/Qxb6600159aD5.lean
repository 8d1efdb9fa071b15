import Derived.Test.Qxb6600159aD4
namespace Go.Proofs.Qxb6600159a
open Go.RowKit
set_option linter.unusedVariables false

/-- A slice value that shows the numbers q, in blocks below X. -/
def IntsB (X : Nat) (w : World) (v : Value) (q : List Int) : Prop :=
  ∃ a c, v = .slice a q.length c ∧ q.length ≤ c ∧ Arr w a q.length (fun j => .int .i32 (q.getD j 0)) ∧ (0 < q.length → ∀ p, a = some p → p.block < X)
theorem IntsB.below {X : Nat} {w w' : World} {v : Value} {q : List Int} (h : IntsB X w v q) (hb : Below X w w') : IntsB X w' v q := by
  obtain ⟨a, c, rfl, h1, h2, h3⟩ := h
  refine ⟨a, c, rfl, h1, ⟨h2.1, ?_⟩, h3⟩
  rcases h2.2 with h0 | ⟨b, off, rfl, hc⟩
  · exact .inl h0
  · by_cases h0 : q.length = 0
    · exact .inl h0
    · have hlt := h3 (by omega) _ rfl
      exact .inr ⟨b, off, rfl, fun i hi => (hb.cell (p := ⟨b, off + i, none⟩) hlt).trans (hc i hi)⟩
theorem IntsF.toB {B X : Nat} {w : World} {v : Value} {q : List Int} (h : IntsF B w v q) (hX : w.heap.size ≤ X) : IntsB X w v q := by
  obtain ⟨a, c, rfl, h1, h2, h3⟩ := h
  refine ⟨a, c, rfl, h1, h2, fun h0 p hp => ?_⟩
  rcases h2.2 with h' | ⟨b, off, rfl, hc⟩
  · omega
  · cases hp
    exact Nat.lt_of_lt_of_le (World.block_lt_of_cell? _ _ (hc 0 (by omega))) hX

/-- The cells of the candidates' struct. -/
def candF (T : Nat) (V : Nat → Value) (mv : Value) (i : Nat) : Value :=
  if i < 16 then (if i < T then V i else .slice none 0 0) else if i = 16 then .int .i64 ((min T 16 : Nat) : Int) else mv
def moreL (T : Nat) (V : Nat → Value) : List Value := (List.range (T - 16)).map fun i => V (16 + i)
/-- The candidates at block X hold T lists: the values V. -/
structure Cand (w : World) (X T : Nat) (V : Nat → Value) (mv : Value) : Prop where
  row : w.rowIs X 29 18 (candF T V mv)
  more : w.ownsRow (X + 1) 26 1 mv (T - 16) (moreL T V)

theorem own_block {w w' : World} {B t s n : Nat} {v : Value} {xs : List Value} (h : w.ownsRow B t s v n xs) (hb : ∀ g, v.ownBlock = some g → w'.heap[g]? = w.heap[g]?) : w'.ownsRow B t s v n xs := by
  refine ⟨h.1, ?_⟩
  rcases h.2 with hn | ⟨g, cap, cur, rfl, h1, h2, rest⟩
  · exact .inl hn
  · exact .inr ⟨g, cap, cur, rfl, h1, (hb g rfl).trans h2, rest⟩

/-- The blocks of the candidates stand. -/
theorem Cand.kept {w w' : World} {X T : Nat} {V : Nat → Value} {mv : Value} (h : Cand w X T V mv) (h1 : w'.heap[X]? = w.heap[X]?) (h2 : ∀ g, mv.ownBlock = some g → w'.heap[g]? = w.heap[g]?) : Cand w' X T V mv :=
  ⟨h.row.of_block h1, own_block h.more h2⟩

def candZ : Obj := .cells #[.slice none 0 0, .slice none 0 0, .slice none 0 0, .slice none 0 0, .slice none 0 0, .slice none 0 0, .slice none 0 0, .slice none 0 0, .slice none 0 0, .slice none 0 0, .slice none 0 0, .slice none 0 0, .slice none 0 0, .slice none 0 0, .slice none 0 0, .slice none 0 0, .int .i64 0, .slice none 0 0] 29
theorem Cand.zero (w : World) (V : Nat → Value) : Cand (w.alloc candZ) w.heap.size 0 V (.slice none 0 0) := by
  refine ⟨?_, World.ownsRow_nil _ _ _ _⟩
  refine World.rowIs_alloc w _ 29 _ fun i hi => ?_
  have hi' : i < 18 := hi
  match i, hi' with
  | 0, _ => rfl
  | 1, _ => rfl
  | 2, _ => rfl
  | 3, _ => rfl
  | 4, _ => rfl
  | 5, _ => rfl
  | 6, _ => rfl
  | 7, _ => rfl
  | 8, _ => rfl
  | 9, _ => rfl
  | 10, _ => rfl
  | 11, _ => rfl
  | 12, _ => rfl
  | 13, _ => rfl
  | 14, _ => rfl
  | 15, _ => rfl
  | 16, _ => rfl
  | 17, _ => rfl
  | i + 18, h => exact absurd h (by omega)

theorem moreL_snoc {T : Nat} (hT : 16 ≤ T) (V : Nat → Value) (v : Value) : moreL (T + 1) (vSet V T v) = moreL T V ++ [v] := by
  unfold moreL
  have e : T + 1 - 16 = (T - 16) + 1 := by omega
  rw [e, List.range_succ, List.map_append]
  congr 1
  · apply List.map_congr_left
    intro i hi
    have := List.mem_range.1 hi
    simp [vSet]
    omega
  · simp [vSet]
    omega
theorem moreL_low {T : Nat} (hT : T < 16) (V V' : Nat → Value) : moreL (T + 1) V' = moreL T V := by
  unfold moreL
  have e1 : T + 1 - 16 = 0 := by omega
  have e2 : T - 16 = 0 := by omega
  rw [e1, e2]
  rfl

/-- What add does: nothing below X turns. -/
def AddPost (w : World) (X T : Nat) (V : Nat → Value) (v : Value) (l : Nat) (e : Ending) (w' : World) : Prop :=
  e = .returned (.tuple #[]) ∧ Below X w w' ∧ (l = 0 → ∃ mv, Cand w' X T V mv) ∧ (0 < l → ∃ mv, Cand w' X (T + 1) (vSet V T v) mv)

theorem Cand.lt {w : World} {X T : Nat} {V : Nat → Value} {mv : Value} (h : Cand w X T V mv) : X < w.heap.size := h.row.lt

theorem Cand.low {w : World} {X T : Nat} {V : Nat → Value} {mv : Value} (h : Cand w X T V mv) (hT : T < 16) (v : Value) :
    Cand ((w.setCell ⟨X, T, none⟩ v).setCell ⟨X, 16, none⟩ (.int .i64 ((T + 1 : Nat) : Int))) X (T + 1) (vSet V T v) mv := by
  have hg : ∀ g, mv.ownBlock = some g → g ≠ X := fun g hg => by have := (h.more.lt g hg).1; omega
  refine ⟨((h.row.set T v).set 16 _).congr fun i hi => ?_, ?_⟩
  · simp only [candF]
    by_cases e : i = 16
    · subst e
      have : min (T + 1) 16 = T + 1 := by omega
      simp [this]
    · rw [if_neg e]
      by_cases e2 : i = T
      · subst e2
        rw [if_pos rfl, if_pos hT, if_pos (by omega)]
        simp [vSet]
      · rw [if_neg e2]
        by_cases e3 : i < 16
        · rw [if_pos e3, if_pos e3]
          by_cases e4 : i < T
          · rw [if_pos e4, if_pos (by omega)]; simp [vSet, e2]
          · rw [if_neg e4, if_neg (by omega)]
        · rw [if_neg e3, if_neg e3, if_neg e, if_neg e]
  · rw [moreL_low hT V]
    have e : T + 1 - 16 = T - 16 := by omega
    rw [e]
    refine own_block h.more fun g hg' => ?_
    rw [Below.heap_setCell _ _ _ _ (hg g hg'), Below.heap_setCell _ _ _ _ (hg g hg')]

theorem Cand.high {w w1 : World} {X T : Nat} {V : Nat → Value} {mv mv' : Value} (h : Cand w X T V mv) (hT : 16 ≤ T) (v : Value) (o : Obj) (hown : w1.ownsRow (X + 1) 26 1 mv' (T - 16 + 1) (moreL T V ++ [v])) (hg : (w.alloc o).grownBy w1 mv.ownBlock) :
    w1.rowIs X 29 18 (candF T V mv) ∧ Cand (w1.setCell ⟨X, 17, none⟩ mv') X (T + 1) (vSet V T v) mv' ∧ Below X w (w1.setCell ⟨X, 17, none⟩ mv') := by
  have hX := h.lt
  have hr : w1.rowIs X 29 18 (candF T V mv) := h.row.of_block ((hg.block X (by simp; omega) (fun e => by have := (h.more.lt X e.symm).1; omega)).trans (Below.heap_alloc w o X hX))
  refine ⟨hr, ⟨(hr.set 17 mv').congr fun i hi => ?_, ?_⟩, ?_⟩
  · simp only [candF]
    by_cases e : i = 17
    · subst e; simp
    · rw [if_neg e]
      by_cases e3 : i < 16
      · rw [if_pos e3, if_pos e3, if_pos (by omega), if_pos (by omega)]
        simp [vSet]
        omega
      · obtain rfl : i = 16 := by omega
        have e1 : min (T + 1) 16 = 16 := by omega
        have e2 : min T 16 = 16 := by omega
        simp [e1, e2]
  · rw [moreL_snoc hT]
    have e : T + 1 - 16 = T - 16 + 1 := by omega
    rw [e]
    refine own_block hown fun g hg' => ?_
    have := (hown.lt g hg').1
    rw [Below.heap_setCell _ _ _ _ (by simp only; omega)]
  · exact (((Below.refl X w).alloc (by omega) o).grown hg (by simp; omega) (fun k hk => by have := (h.more.lt k hk).1; omega)).setCell (p := ⟨X, 17, none⟩) (Nat.le_refl _) mv'

theorem below_same {B : Nat} {w W W' : World} (h : Below B w W) (e1 : W'.heap = W.heap) (e2 : W'.os = W.os) (e3 : W'.tape = W.tape) (e4 : W'.output = W.output) : Below B w W' :=
  ⟨e2.trans h.os, e3.trans h.tape, e4.trans h.output, by rw [e1]; exact h.size, fun k hk => by rw [e1]; exact h.block k hk⟩

set_option maxHeartbeats 1000000 in
theorem add39 (w : World) (X T : Nat) (V : Nat → Value) (mv : Value) (h : Cand w X T V mv) (hT : T ≤ 1048576) (a : Option Addr) (l c : Nat) (hl : l ≤ 1048576) :
    Calls Try.prog 39 #[.pointer (some ⟨X, 0, none⟩), .slice a l c] w (AddPost w X T V (.slice a l c) l) := by
  obtain ⟨i0, hi, hz0, hz1, hz2⟩ := info_parts Try.info26
  by_cases hl0 : l = 0
  · subst hl0
    go_enter Try.func39, Try.ntmps39
    go_wp2
    go_end0
    exact ⟨rfl, Below.refl _ _, fun _ => ⟨mv, h⟩, fun h => by omega⟩
  · have d0 : ((l : Int) == 0) = false := by simp; omega
    have c16 := h.row.cell (i := 16) (by omega)
    have e16 : candF T V mv 16 = .int .i64 ((min T 16 : Nat) : Int) := rfl
    rw [e16] at c16
    by_cases hT16 : T < 16
    · have em : min T 16 = T := by omega
      rw [em] at c16
      have cT := h.row.cell (i := T) (by omega)
      have fT := h.row.frozen T
      have f16 := h.row.frozen 16
      have r1 := h.row.set T (.slice a l c)
      have d16 := r1.cell (i := 16) (by omega)
      have g16 := r1.frozen 16
      rw [if_neg (by omega), e16, em] at d16
      have R := hid (h.low hT16 (.slice a l c))
      have hb := hid ((((Below.refl X w).setCell (p := ⟨X, T, none⟩) (Nat.le_refl _) (.slice a l c)).setCell (p := ⟨X, 16, none⟩) (Nat.le_refl _) (.int .i64 ((T + 1 : Nat) : Int))))
      have i1 : (T : Int) < 16 := by omega
      have i2 : (0 : Int) ≤ (T : Int) := by omega
      have hXl := h.lt
      clear h em e16 r1
      go_enter Try.func39, Try.ntmps39
      go_wp2
      go_region
      go_wp2
      go_end0
      exact ⟨rfl, below_same hb.out rfl rfl rfl rfl, fun h => absurd h hl0, fun _ => ⟨mv, R.out.kept rfl (fun _ _ => rfl)⟩⟩
    · have em : min T 16 = 16 := by omega
      rw [em] at c16
      have c17 := h.row.cell (i := 17) (by omega)
      have e17 : candF T V mv 17 = mv := rfl
      rw [e17] at c17
      have HC := hid h
      have hXl := h.lt
      have i1 : ¬ ((16 : Int) < 16) := by omega
      obtain ⟨ma, mn, mc, hmv⟩ : ∃ ma mn mc, mv = .slice ma mn mc := by
        rcases h.more.2 with ⟨h1, _⟩ | ⟨g, cap, cur, h1, _⟩
        · exact ⟨_, _, _, h1⟩
        · exact ⟨_, _, _, h1⟩
      subst hmv
      clear h em e16 e17
      go_enter Try.func39, Try.ntmps39
      go_wp2_with (first
        | (at_builtin; refine wpList_append_own _ rfl _ _ 22 rfl (X + 1) 26 i0 (.slice none 0 0) 1 24 Try.underlying22 hi hz0 hz1 hz2 rfl (by decide) _ _ _ rfl (World.ownsRow.alloc HC.out.more _) ⟨w.heap.size, 0, none⟩ 1 1 [.slice a l c] rfl rfl (cell_one w _ _) (by intro u hu; simp at hu; subst hu; rfl) (by unfold maxLen; omega) (by omega) (by simp; omega) ?_)
        | fail)
      intro v' w1 hown hgrow _
      obtain ⟨hr, hC, hB⟩ := HC.out.high (by omega) (.slice a l c) _ hown hgrow
      have t1 := hr.cell (i := 17) (by omega)
      have t2 := hr.frozen 17
      have R := hid hC
      have RB := hid hB
      obtain ⟨va, vn, vc, hv⟩ : ∃ va vn vc, v' = .slice va vn vc := by
        rcases hown.2 with ⟨h1, _⟩ | ⟨g, cap, cur, h1, _⟩
        · exact ⟨_, _, _, h1⟩
        · exact ⟨_, _, _, h1⟩
      subst hv
      clear hr hC hB hown hgrow HC c16 c17
      go_wp2_with fail
      go_end0
      exact ⟨rfl, RB.out, fun h => absurd h hl0, fun _ => ⟨_, R.out⟩⟩

theorem zz12 (w : World) (X T : Nat) (V : Nat → Value) (mv : Value) (h : Cand w X T V mv) (hT : T ≤ 1048576) (a : Option Addr) (l c : Nat) (hl : l ≤ 1048576) :
    Calls Try.prog 12 #[.pointer (some ⟨X, 0, none⟩), .slice a l c] w (AddPost w X T V (.slice a l c) l) := by
  have C := hid (add39 w X T V mv h hT a l c hl)
  clear h
  go_enter Try.func12, Try.ntmps12
  go_wp2_with fail
  refine C.out.mono ?_
  rintro e w' ⟨rfl, h⟩
  have H := hid h
  clear h
  go_wp2_with fail
  go_end0
  exact ⟨rfl, H.out⟩
end Go.Proofs.Qxb6600159a
