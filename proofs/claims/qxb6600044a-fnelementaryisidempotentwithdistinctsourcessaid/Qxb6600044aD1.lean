import Derived.Test.Qxb6600044aA5
import Derived.Test.Qxb6600044aP2
namespace Go.Proofs.Qxb6600044a
open Go.RowKit
set_option linter.unusedVariables false

def arcZ : Arc := ⟨0, 0, 0, 0⟩
def arcAt (xs : List Arc) (i : Nat) : Arc := xs.getD i arcZ
/-- The four cells of an arc. -/
def arcCell (x : Arc) (j : Nat) : Value := if j = 0 then .int .i32 x.f else if j = 1 then .int .i32 x.t else if j = 2 then .int .i32 x.k else .int .i64 x.d
/-- The slice at a shows the arcs xs. -/
def Arcs (w : World) (a : Option Addr) (xs : List Arc) : Prop := Arr w a (xs.length * 4) fun x => arcCell (arcAt xs (x / 4)) (x % 4)

theorem Arcs.later {w w' : World} {a : Option Addr} {xs : List Arc} (h : Arcs w a xs) (hb : Below w.heap.size w w') : Arcs w' a xs := Arr.later h hb

theorem Arcs.at {w : World} {a : Option Addr} {xs : List Arc} (h : Arcs w a xs) {k : Nat} (hk : k < xs.length) :
    ∃ b off, a = some ⟨b, off, none⟩ ∧ w.cell? ⟨b, off + k * 4, none⟩ = some (.int .i32 (arcAt xs k).f) ∧ w.cell? ⟨b, off + k * 4 + 1, none⟩ = some (.int .i32 (arcAt xs k).t) ∧
      w.cell? ⟨b, off + k * 4 + 2, none⟩ = some (.int .i32 (arcAt xs k).k) ∧ w.cell? ⟨b, off + k * 4 + 3, none⟩ = some (.int .i64 (arcAt xs k).d) := by
  rcases h.2 with h0 | ⟨b, off, rfl, hc⟩
  · omega
  · refine ⟨b, off, rfl, ?_, ?_, ?_, ?_⟩
    · rw [hc (k * 4) (by omega)]; simp [arcCell]
    · rw [Nat.add_assoc, hc (k * 4 + 1) (by omega)]; simp [arcCell, Nat.add_mod, Nat.add_div]
    · rw [Nat.add_assoc, hc (k * 4 + 2) (by omega)]; simp [arcCell, Nat.add_mod, Nat.add_div]
    · rw [Nat.add_assoc, hc (k * 4 + 3) (by omega)]; simp [arcCell, Nat.add_mod, Nat.add_div]

/-- What a copy of arcs returns: a slice in new memory with the same arcs. -/
def RetArcs (w : World) (xs : List Arc) (e : Ending) (w' : World) : Prop :=
  ∃ a' c', e = .returned (.slice a' xs.length c') ∧ xs.length ≤ c' ∧ Arcs w' a' xs ∧ Below w.heap.size w w'

def arcZc : Array Value := #[.int .i32 0, .int .i32 0, .int .i32 0, .int .i64 0]
theorem Try.info69 : (Try.prog.info? 69).map (fun i => (i.zero, i.size, i.bytes)) = some (some (.agg #[.int .i32 0, .int .i32 0, .int .i32 0, .int .i64 0]), 4, 24) := by kernel_rfl
theorem Try.info74 : (Try.prog.info? 74).map (fun i => (i.zero, i.size, i.bytes)) = some (some (.agg #[.int .i32 0, .int .i32 0, .int .i32 0, .int .i64 0]), 4, 24) := by kernel_rfl

theorem make22 (n : Nat) (hn : n ≤ 1048576) (w : World) :
    (Instr.makeSlice 22 (.int .i64 (n : Int)) (.int .i64 (n : Int))).run Try.prog w = .ok (.slice (some ⟨w.heap.size, 0, none⟩) n n) (w.alloc (.cells (madeCells arcZc (n * 4)) 69)) := by
  obtain ⟨i0, hi, hz0, hz1, hz2⟩ := info_parts Try.info69
  have h := run_make (P := Try.prog) w 22 69 i0 _ Try.underlying22 hi hz0 .i64 .i64 n n (by omega) (by omega) (by rw [hz2]; omega) (by omega)
  rw [h, hz1]
  simp [arcZc, Value.cells]
theorem make26 (n : Nat) (hn : n ≤ 1048576) (w : World) :
    (Instr.makeSlice 26 (.int .i64 (n : Int)) (.int .i64 (n : Int))).run Try.prog w = .ok (.slice (some ⟨w.heap.size, 0, none⟩) n n) (w.alloc (.cells (madeCells arcZc (n * 4)) 74)) := by
  obtain ⟨i0, hi, hz0, hz1, hz2⟩ := info_parts Try.info74
  have h := run_make (P := Try.prog) w 26 74 i0 _ Try.underlying26 hi hz0 .i64 .i64 n n (by omega) (by omega) (by rw [hz2]; omega) (by omega)
  rw [h, hz1]
  simp [arcZc, Value.cells]

/-- The row of a copy behind k rounds. -/
def rowF (xs : List Arc) (k x : Nat) : Value := if x < k * 4 then arcCell (arcAt xs (x / 4)) (x % 4) else arcZc[x % 4]!

theorem row_made (w : World) (t n : Nat) (xs : List Arc) : (w.alloc (.cells (madeCells arcZc (n * 4)) t)).rowIs w.heap.size t (n * 4) (rowF xs 0) := by
  have h := World.rowIs_alloc w (madeCells arcZc (n * 4)) t (fun x => arcZc[x % 4]!) (fun i hi => by
    rw [size_madeCells] at hi
    simp [madeCells, hi, arcZc])
  rw [size_madeCells] at h
  exact h.congr fun i hi => by simp [rowF]

theorem row_step {wr : World} {b t n k : Nat} {xs : List Arc} (h : wr.rowIs b t (n * 4) (rowF xs k)) (hk : k < n) {x : Arc} (hx : arcAt xs k = x) :
    ((((wr.setCell ⟨b, k * 4, none⟩ (.int .i32 x.f)).setCell ⟨b, k * 4 + 1, none⟩ (.int .i32 x.t)).setCell ⟨b, k * 4 + 2, none⟩ (.int .i32 x.k)).setCell ⟨b, k * 4 + 3, none⟩ (.int .i64 x.d)).rowIs b t (n * 4) (rowF xs (k + 1)) := by
  refine ((((h.set (k * 4) _).set (k * 4 + 1) _).set (k * 4 + 2) _).set (k * 4 + 3) _).congr fun i hi => ?_
  subst hx
  simp only [rowF]
  by_cases e3 : i = k * 4 + 3
  · subst e3
    rw [if_pos rfl, if_pos (by omega)]
    simp [arcCell, Nat.add_mod, Nat.add_div]
  rw [if_neg e3]
  by_cases e2 : i = k * 4 + 2
  · subst e2
    rw [if_pos rfl, if_pos (by omega)]
    simp [arcCell, Nat.add_mod, Nat.add_div]
  rw [if_neg e2]
  by_cases e1 : i = k * 4 + 1
  · subst e1
    rw [if_pos rfl, if_pos (by omega)]
    simp [arcCell, Nat.add_mod, Nat.add_div]
  rw [if_neg e1]
  by_cases e0 : i = k * 4
  · subst e0
    rw [if_pos rfl, if_pos (by omega)]
    simp [arcCell]
  rw [if_neg e0]
  by_cases hlt : i < k * 4
  · rw [if_pos hlt, if_pos (by omega)]
  · rw [if_neg hlt, if_neg (by omega)]

theorem below4 {B : Nat} {w wr : World} (h : Below B w wr) {b : Nat} (hb : B ≤ b) (o0 o1 o2 o3 : Nat) (v0 v1 v2 v3 : Value) :
    Below B w ((((wr.setCell ⟨b, o0, none⟩ v0).setCell ⟨b, o1, none⟩ v1).setCell ⟨b, o2, none⟩ v2).setCell ⟨b, o3, none⟩ v3) :=
  (((h.setCell (p := ⟨b, o0, none⟩) hb v0).setCell (p := ⟨b, o1, none⟩) hb v1).setCell (p := ⟨b, o2, none⟩) hb v2).setCell (p := ⟨b, o3, none⟩) hb v3

theorem row_done {wr : World} {b t : Nat} {xs : List Arc} (h : wr.rowIs b t (xs.length * 4) (rowF xs xs.length)) (hn : xs.length ≤ 1048576) : Arcs wr (some ⟨b, 0, none⟩) xs :=
  Arr.ofRow (h.congr fun i hi => by simp [rowF, hi]) (by omega)

set_option maxHeartbeats 1000000 in
theorem clone11 (a : Option Addr) (c : Nat) (xs : List Arc) (w : World) (h : Arcs w a xs) (hn : xs.length ≤ 4096) :
    Calls Try.prog 11 #[.slice a xs.length c] w (RetArcs w xs) := by
  have q : ∀ (w : World) (a : Option Addr) (n c n' c' : Nat), (binOp .eql 22 (.slice a n c) (.slice none n' c')).run Try.prog w = .ok (.bool a.isNone) w := fun w a n c n' c' => Lib.run_eql_slice_nil w _ _ a n c n' c' Try.underlying22
  obtain ⟨n, hnn⟩ : ∃ n, n = xs.length := ⟨_, rfl⟩
  rcases a with _ | p
  · have h0 : xs.length = 0 := by have := Arr.nil h; omega
    rw [h0]
    go_enter Try.func11, Try.ntmps11
    go_wp2
    go_ret
    refine ⟨none, 0, by rw [h0]; rfl, by omega, ⟨by omega, .inl (by omega)⟩, Below.refl _ _⟩
  · have hmk := make22 n (by omega)
    rw [← hnn]
    have HN := hid hnn
    have hn' : n ≤ 4096 := by omega
    clear hnn
    go_enter Try.func11, Try.ntmps11
    go_wp2
    clear hmk q
    go_loopw [4] (fun i wr => ∃ k : Nat, k ≤ n ∧ i = .int .i64 k ∧ wr.rowIs w.heap.size 69 (n * 4) (rowF xs k) ∧ Below w.heap.size w wr) (fun i _ => n - (intOf i).toNat)
    case atStart => exact ⟨0, Nat.zero_le _, rfl, row_made w 69 n xs, (Below.refl _ _).alloc (Nat.le_refl _) _⟩
    case round =>
      obtain ⟨k, hk, rfl, hrow, hbel⟩ := hrel
      by_cases hlt : k < n
      · obtain ⟨b, off, hp, hc0, hc1, hc2, hc3⟩ := h.at (k := k) (by rw [← HN.out]; exact hlt)
        simp only [Option.some.injEq] at hp
        subst hp
        have d0 := cell_later hbel hc0
        have d1 := cell_later hbel hc1
        have d2 := cell_later hbel hc2
        have d3 := cell_later hbel hc3
        have m0 := hrow.cell (i := k * 4) (by omega)
        have m1 := hrow.cell (i := k * 4 + 1) (by omega)
        have m2 := hrow.cell (i := k * 4 + 2) (by omega)
        have m3 := hrow.cell (i := k * 4 + 3) (by omega)
        have g0 := hrow.frozen (k * 4)
        have g1 := hrow.frozen (k * 4 + 1)
        have g2 := hrow.frozen (k * 4 + 2)
        have g3 := hrow.frozen (k * 4 + 3)
        have hst := hid (row_step hrow hlt rfl)
        clear hc0 hc1 hc2 hc3 hrow
        go_wp2
        go_roundw
        case rel => exact ⟨k + 1, by omega, by go_num, hst.out, below4 hbel (Nat.le_refl _) _ _ _ _ _ _ _ _⟩
        case measure => simp [intOf]; omega
      · go_wp2
        go_ret
        obtain rfl : k = n := by omega
        have e := HN.out
        subst e
        exact ⟨_, _, rfl, Nat.le_refl _, row_done hrow (by omega), hbel⟩
end Go.Proofs.Qxb6600044a
