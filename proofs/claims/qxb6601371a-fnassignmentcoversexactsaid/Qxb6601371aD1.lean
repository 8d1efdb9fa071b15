import Derived.Test.Qxb6601371aA2
namespace Go.Proofs.Qxb6601371a
open Go.RowKit
set_option linter.unusedVariables false

/-- The cells of clusters: three a cluster. -/
def clF (A B C : Nat → Int) (x : Nat) : Value := .int .i64 (if x % 3 = 0 then A (x / 3) else if x % 3 = 1 then B (x / 3) else C (x / 3))
/-- The slice at a shows n clusters. -/
def Cls (w : World) (a : Option Addr) (n : Nat) (A B C : Nat → Int) : Prop := Arr w a (n * 3) (clF A B C)
theorem Cls.later {w w' : World} {a : Option Addr} {n : Nat} {A B C : Nat → Int} (h : Cls w a n A B C) (hb : Below w.heap.size w w') : Cls w' a n A B C := Arr.later h hb
theorem clF0 (A B C : Nat → Int) (k : Nat) : clF A B C (k * 3) = .int .i64 (A k) := by simp [clF]
theorem clF1 (A B C : Nat → Int) (k : Nat) : clF A B C (k * 3 + 1) = .int .i64 (B k) := by
  have h1 : (k * 3 + 1) % 3 = 1 := by omega
  have h2 : (k * 3 + 1) / 3 = k := by omega
  simp [clF, h1, h2]
theorem clF2 (A B C : Nat → Int) (k : Nat) : clF A B C (k * 3 + 2) = .int .i64 (C k) := by
  have h1 : (k * 3 + 2) % 3 = 2 := by omega
  have h2 : (k * 3 + 2) / 3 = k := by omega
  simp [clF, h1, h2]
theorem Cls.at {w : World} {a : Option Addr} {n : Nat} {A B C : Nat → Int} (h : Cls w a n A B C) {k : Nat} (hk : k < n) :
    ∃ b off, a = some ⟨b, off, none⟩ ∧ w.cell? ⟨b, off + k * 3, none⟩ = some (.int .i64 (A k)) ∧ w.cell? ⟨b, off + k * 3 + 1, none⟩ = some (.int .i64 (B k)) ∧ w.cell? ⟨b, off + k * 3 + 2, none⟩ = some (.int .i64 (C k)) := by
  rcases h.2 with h0 | ⟨b, off, rfl, hc⟩
  · omega
  · refine ⟨b, off, rfl, ?_, ?_, ?_⟩
    · rw [hc (k * 3) (by omega), clF0]
    · rw [Nat.add_assoc, hc (k * 3 + 1) (by omega), clF1]
    · rw [Nat.add_assoc, hc (k * 3 + 2) (by omega), clF2]

def clZ : Array Value := #[.int .i64 0, .int .i64 0, .int .i64 0]
/-- A row of clusters behind k rounds. -/
def rowG (A B C : Nat → Int) (k x : Nat) : Value := if x < k * 3 then clF A B C x else .int .i64 0

theorem rowG_made (w : World) (t n : Nat) (A B C : Nat → Int) : (w.alloc (.cells (madeCells clZ (n * 3)) t)).rowIs w.heap.size t (n * 3) (rowG A B C 0) := by
  have h := World.rowIs_alloc w (madeCells clZ (n * 3)) t (fun x => .int .i64 0) (fun i hi => by
    rw [size_madeCells] at hi
    have : i % 3 = 0 ∨ i % 3 = 1 ∨ i % 3 = 2 := by omega
    rcases this with e | e | e <;> simp [madeCells, hi, clZ, e])
  rw [size_madeCells] at h
  exact h.congr fun i hi => by simp [rowG]

theorem rowG_step {wr : World} {b t n k : Nat} {A B C : Nat → Int} (h : wr.rowIs b t (n * 3) (rowG A B C k)) (hk : k < n) :
    (((wr.setCell ⟨b, k * 3, none⟩ (.int .i64 (A k))).setCell ⟨b, k * 3 + 1, none⟩ (.int .i64 (B k))).setCell ⟨b, k * 3 + 2, none⟩ (.int .i64 (C k))).rowIs b t (n * 3) (rowG A B C (k + 1)) := by
  refine (((h.set (k * 3) _).set (k * 3 + 1) _).set (k * 3 + 2) _).congr fun i hi => ?_
  simp only [rowG]
  by_cases e2 : i = k * 3 + 2
  · subst e2; rw [if_pos rfl, if_pos (by omega), clF2]
  rw [if_neg e2]
  by_cases e1 : i = k * 3 + 1
  · subst e1; rw [if_pos rfl, if_pos (by omega), clF1]
  rw [if_neg e1]
  by_cases e0 : i = k * 3
  · subst e0; rw [if_pos rfl, if_pos (by omega), clF0]
  rw [if_neg e0]
  by_cases hlt : i < k * 3
  · rw [if_pos hlt, if_pos (by omega)]
  · rw [if_neg hlt, if_neg (by omega)]
theorem rowG_done {wr : World} {b t n : Nat} {A B C : Nat → Int} (h : wr.rowIs b t (n * 3) (rowG A B C n)) (hn : n ≤ 1048576) : Cls wr (some ⟨b, 0, none⟩) n A B C :=
  Arr.ofRow (h.congr fun i hi => by simp [rowG, hi]) (by omega)
theorem below3 {B : Nat} {w wr : World} (h : Below B w wr) {b : Nat} (hb : B ≤ b) (o0 o1 o2 : Nat) (v0 v1 v2 : Value) : Below B w (((wr.setCell ⟨b, o0, none⟩ v0).setCell ⟨b, o1, none⟩ v1).setCell ⟨b, o2, none⟩ v2) :=
  ((h.setCell (p := ⟨b, o0, none⟩) hb v0).setCell (p := ⟨b, o1, none⟩) hb v1).setCell (p := ⟨b, o2, none⟩) hb v2

theorem Try.info50 : (Try.prog.info? 50).map (fun i => (i.zero, i.size, i.bytes)) = some (some (.agg #[.int .i64 0, .int .i64 0, .int .i64 0]), 3, 24) := by kernel_rfl
theorem Try.info61 : (Try.prog.info? 61).map (fun i => (i.zero, i.size, i.bytes)) = some (some (.agg #[.int .i64 0, .int .i64 0, .int .i64 0]), 3, 24) := by kernel_rfl
theorem make41 (n : Nat) (hn : n ≤ 1048576) (w : World) :
    (Instr.makeSlice 41 (.int .i64 (n : Int)) (.int .i64 (n : Int))).run Try.prog w = .ok (.slice (some ⟨w.heap.size, 0, none⟩) n n) (w.alloc (.cells (madeCells clZ (n * 3)) 50)) := by
  obtain ⟨i0, hi, hz0, hz1, hz2⟩ := info_parts Try.info50
  have h := run_make (P := Try.prog) w 41 50 i0 _ Try.underlying41 hi hz0 .i64 .i64 n n (by omega) (by omega) (by rw [hz2]; omega) (by omega)
  rw [h, hz1]
  simp [clZ, Value.cells]
theorem make59 (n : Nat) (hn : n ≤ 1048576) (w : World) :
    (Instr.makeSlice 59 (.int .i64 (n : Int)) (.int .i64 (n : Int))).run Try.prog w = .ok (.slice (some ⟨w.heap.size, 0, none⟩) n n) (w.alloc (.cells (madeCells clZ (n * 3)) 61)) := by
  obtain ⟨i0, hi, hz0, hz1, hz2⟩ := info_parts Try.info61
  have h := run_make (P := Try.prog) w 59 61 i0 _ Try.underlying59 hi hz0 .i64 .i64 n n (by omega) (by omega) (by rw [hz2]; omega) (by omega)
  rw [h, hz1]
  simp [clZ, Value.cells]

def RetCls (w : World) (n : Nat) (A B C : Nat → Int) (e : Ending) (w' : World) : Prop := ∃ a' c', e = .returned (.slice a' n c') ∧ Cls w' a' n A B C ∧ Below w.heap.size w w'

set_option maxHeartbeats 1000000 in
theorem copy22 (a : Option Addr) (c n : Nat) (A B C : Nat → Int) (w : World) (h : Cls w a n A B C) (hn : n ≤ 65536) :
    Calls Try.prog 22 #[.slice a n c] w (RetCls w n A B C) := by
  have q : ∀ (w : World) (a : Option Addr) (n c n' c' : Nat), (binOp .eql 41 (.slice a n c) (.slice none n' c')).run Try.prog w = .ok (.bool a.isNone) w := fun w a n c n' c' => Lib.run_eql_slice_nil w _ _ a n c n' c' Try.underlying41
  rcases a with _ | p
  · have h0 : n = 0 := by have := Arr.nil h; omega
    subst h0
    go_enter Try.func22, Try.ntmps22
    go_wp2
    go_ret
    exact ⟨none, 0, rfl, ⟨by omega, .inl rfl⟩, Below.refl _ _⟩
  · have hmk := make41 n (by omega)
    go_enter Try.func22, Try.ntmps22
    go_wp2
    clear hmk q
    go_loopw [4] (fun i wr => ∃ k : Nat, k ≤ n ∧ i = .int .i64 k ∧ wr.rowIs w.heap.size 50 (n * 3) (rowG A B C k) ∧ Below w.heap.size w wr) (fun i _ => n - (intOf i).toNat)
    case atStart => exact ⟨0, Nat.zero_le _, rfl, rowG_made w 50 n A B C, (Below.refl _ _).alloc (Nat.le_refl _) _⟩
    case round =>
      obtain ⟨k, hk, rfl, hrow, hbel⟩ := hrel
      by_cases hlt : k < n
      · obtain ⟨b, off, hp, hc0, hc1, hc2⟩ := h.at hlt
        simp only [Option.some.injEq] at hp
        subst hp
        have d0 := cell_later hbel hc0
        have d1 := cell_later hbel hc1
        have d2 := cell_later hbel hc2
        have m0 := hrow.cell (i := k * 3) (by omega)
        have m1 := hrow.cell (i := k * 3 + 1) (by omega)
        have m2 := hrow.cell (i := k * 3 + 2) (by omega)
        have g0 := hrow.frozen (k * 3)
        have g1 := hrow.frozen (k * 3 + 1)
        have g2 := hrow.frozen (k * 3 + 2)
        have hst := hid (rowG_step hrow hlt)
        clear hc0 hc1 hc2 hrow
        go_wp2
        go_roundw
        case rel => exact ⟨k + 1, by omega, by go_num, hst.out, below3 hbel (Nat.le_refl _) _ _ _ _ _ _⟩
        case measure => simp [intOf]; omega
      · go_wp2
        go_ret
        obtain rfl : k = n := by omega
        exact ⟨_, _, rfl, rowG_done hrow (by omega), hbel⟩

theorem zz20 (s L : Int) (a2 a3 : Option Addr) (n2 n3 c2 c3 : Nat) (f0 f1 f2 f3 f4 : Int) (b5 : Bool) (r0 r4 : Bool) (r1 r2 r3 r5 : Int) (w : World) (h2 : n2 ≤ 9223372036854775807) (h3 : n3 ≤ 9223372036854775807) :
    Calls Try.prog 20 #[.int .i64 s, .int .i64 L, .slice a2 n2 c2, .slice a3 n3 c3, .agg #[.int .i64 f0, .int .i64 f1, .int .i64 f2, .int .i64 f3, .int .i64 f4, .bool b5], .agg #[.bool r0, .int .i64 r1, .int .i64 r2, .int .i64 r3, .bool r4, .int .i64 r5]] w fun e w' => ∃ b : Bool, e = .returned (.bool b) ∧ Below w.heap.size w w' := by
  go_enter Try.func20, Try.ntmps20
  go_wp2
  all_goals
    go_ret
    exact ⟨_, rfl, ((Below.refl _ _).alloc (Nat.le_refl _) _).alloc (by simp) _⟩
end Go.Proofs.Qxb6601371a
