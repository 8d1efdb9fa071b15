import Derived.Test.Qxb6601371aD2
namespace Go.Proofs.Qxb6601371a
open Go.RowKit
set_option linter.unusedVariables false

/-- The very world. -/
def IsW (w wr : World) : Prop := wr = w
theorem IsW.eq {w wr : World} (h : IsW w wr) : w = wr := Eq.symm h

/-- The assignment at block A: what next and covers read. -/
structure Asg (w : World) (A P : Nat) (vc vn : Value) (L : Int) : Prop where
  c1 : w.cell? ⟨A, 1, none⟩ = some vc
  c9 : w.cell? ⟨A, 9, none⟩ = some (.int .i64 L)
  c10 : w.cell? ⟨A, 10, none⟩ = some vn
  c11 : w.cell? ⟨A, 11, none⟩ = some (.int .i64 0)
  c12 : w.cell? ⟨A, 12, none⟩ = some (.slice none 0 0)
  c15 : w.cell? ⟨A, 15, none⟩ = some (.pointer (some ⟨P, 0, none⟩))
theorem Asg.kept {w w' : World} {A P : Nat} {vc vn : Value} {L : Int} (h : Asg w A P vc vn L) (e : w'.heap[A]? = w.heap[A]?) : Asg w' A P vc vn L :=
  ⟨(World.cell?_of_block (a := ⟨A, 1, none⟩) e).trans h.c1, (World.cell?_of_block (a := ⟨A, 9, none⟩) e).trans h.c9, (World.cell?_of_block (a := ⟨A, 10, none⟩) e).trans h.c10, (World.cell?_of_block (a := ⟨A, 11, none⟩) e).trans h.c11, (World.cell?_of_block (a := ⟨A, 12, none⟩) e).trans h.c12, (World.cell?_of_block (a := ⟨A, 15, none⟩) e).trans h.c15⟩
theorem Asg.lt {w : World} {A P : Nat} {vc vn : Value} {L : Int} (h : Asg w A P vc vn L) : A < w.heap.size := World.block_lt_of_cell? _ _ h.c1

theorem Try.info58 : (Try.prog.info? 58).map (fun i => (i.zero, i.size, i.bytes)) = some (some (.agg #[.bool false, .int .i64 0, .int .i64 0, .int .i64 0, .bool false]), 5, 40) := by kernel_rfl
theorem make56 (w : World) : ∃ o, (Instr.makeSlice 56 (.int .i64 0) (.int .i64 0)).run Try.prog w = .ok (.slice (some ⟨w.heap.size, 0, none⟩) 0 0) (w.alloc o) := by
  obtain ⟨i0, hi, hz0, hz1, hz2⟩ := info_parts Try.info58
  have h := run_make (P := Try.prog) w 56 58 i0 _ Try.underlying56 hi hz0 .i64 .i64 0 0 (by omega) (by omega) (by omega) (by omega)
  exact ⟨_, h⟩

/-- What ZZMakeAssignment makes. -/
def MakePost (w : World) (s L : Int) (vn : Value) (n : Nat) (X Y Z : Nat → Int) (e : Ending) (w' : World) : Prop :=
  ∃ A P B c, e = .returned (.pointer (some ⟨A, 0, none⟩)) ∧ Asg w' A P (.slice (some ⟨B, 0, none⟩) n c) vn L ∧ w'.rowIs P 3 1 (fun _ => .int .i64 s) ∧ Cls w' (some ⟨B, 0, none⟩) n X Y Z ∧ A ≠ P ∧ B ≠ P ∧ w.heap.size ≤ A ∧ w.heap.size ≤ P ∧ w.heap.size ≤ B ∧ Below w.heap.size w w'

set_option maxRecDepth 100000 in
set_option maxHeartbeats 2000000 in
theorem make16 (s L : Int) (an a6 a7 a8 : Option Addr) (nn cn n c6 c7 c8 : Nat) (X Y Z : Nat → Int) (w : World) (hn : n ≤ 65536)
    (h6 : Arr w a6 n fun i => .int .i64 (X i)) (h7 : Arr w a7 n fun i => .int .i64 (Y i)) (h8 : Arr w a8 n fun i => .int .i64 (Z i)) :
    Calls Try.prog 16 #[.int .i64 s, .int .i64 L, .slice an nn cn, .int .i64 0, .slice none 0 0, .slice none 0 0, .slice a6 n c6, .slice a7 n c7, .slice a8 n c8] w (MakePost w s L (.slice an nn cn) n X Y Z) := by
  obtain ⟨o, hmk⟩ := make56 w
  have hm2 := make59 n (by omega)
  go_enter Try.func16, Try.ntmps16
  go_wp2
  go_loopw [20] (fun i wr => i = .int .i64 0 ∧ IsW (w.alloc o) wr) (fun _ _ => 0)
  case atStart => exact ⟨rfl, rfl⟩
  case round =>
    obtain ⟨rfl, hw⟩ := hrel
    obtain rfl := IsW.eq hw
    clear hmk
    have B1 := hid ((Below.refl w.heap.size w).alloc (Nat.le_refl _) o)
    obtain ⟨w1, hw1⟩ : ∃ w1, w1 = w.alloc o := ⟨_, rfl⟩
    rw [← hw1] at B1 ⊢
    have hs1 : w.heap.size < w1.heap.size := by rw [hw1]; simp
    clear hw hw1
    go_wp2
    clear hm2
    go_loopw [22] (fun i wr => ∃ k : Nat, k ≤ n ∧ i = .int .i64 k ∧ wr.rowIs w1.heap.size 61 (n * 3) (rowG X Y Z k) ∧ Below w1.heap.size w1 wr) (fun i _ => n - (intOf i).toNat)
    case atStart => exact ⟨0, Nat.zero_le _, rfl, rowG_made w1 61 n X Y Z, (Below.refl _ _).alloc (Nat.le_refl _) _⟩
    case round =>
      obtain ⟨k, hk, rfl, hrow, hbel⟩ := hrel
      by_cases hlt : k < n
      · have hb := B1.out.trans (hbel.mono B1.out.size)
        obtain ⟨b6, o6, rfl, e6⟩ := (h6.later hb).at hlt
        obtain ⟨b7, o7, rfl, e7⟩ := (h7.later hb).at hlt
        obtain ⟨b8, o8, rfl, e8⟩ := (h8.later hb).at hlt
        have m0 := hrow.cell (i := k * 3) (by omega)
        have m1 := hrow.cell (i := k * 3 + 1) (by omega)
        have m2 := hrow.cell (i := k * 3 + 2) (by omega)
        have g0 := hrow.frozen (k * 3)
        have g1 := hrow.frozen (k * 3 + 1)
        have g2 := hrow.frozen (k * 3 + 2)
        have i1 : (k : Int) < (n : Int) := by omega
        have hst := hid (rowG_step hrow hlt)
        have HB := hid (below3 hbel (Nat.le_refl _) (k * 3) (k * 3 + 1) (k * 3 + 2) (.int .i64 (X k)) (.int .i64 (Y k)) (.int .i64 (Z k)))
        clear hrow hb hbel
        go_wp2
        go_region
        go_wp2
        go_roundw
        case rel => exact ⟨k + 1, by omega, by go_num, hst.out, HB.out.drew⟩
        case measure => simp [intOf]; omega
      · obtain rfl : k = n := by omega
        rename World => W
        have HR := hid hrow
        have HB := hid hbel
        have hWs := hbel.size
        have hrl := hrow.lt
        clear hrow hbel
        go_wp2
        go_ret
        have hc := fun (WW : World) (c : Array Value) (t i : Nat) (v : Value) (hv : c[i]? = some v) => resC (w := WW.alloc (.cells c t)) (b := WW.heap.size) (c := c) (t := t) (by show (WW.heap.push _)[WW.heap.size]? = _; simp) i v hv
        have e1 : (W.alloc (Obj.cells #[Value.int .i64 s] 3)).heap.size = W.heap.size + 1 := by simp
        have hb1 : Below w.heap.size w (W.alloc (Obj.cells #[Value.int .i64 s] 3)) := (B1.out.trans (HB.out.mono B1.out.size)).alloc (by omega) _
        have hp : (W.alloc (Obj.cells #[Value.int .i64 s] 3)).rowIs W.heap.size 3 1 (fun _ => .int .i64 s) := World.rowIs_alloc W #[Value.int .i64 s] 3 (fun _ => .int .i64 s) (fun i hi => by
          have : i = 0 := by simpa using hi
          subst this; rfl)
        refine ⟨W.heap.size + 1, W.heap.size, w1.heap.size, k, rfl, ?_, hp.alloc _, ?_, by omega, by omega, by omega, by omega, by omega, hb1.alloc (by omega) _⟩
        · rw [← e1]
          exact ⟨hc _ _ _ 1 _ rfl, hc _ _ _ 9 _ rfl, hc _ _ _ 10 _ rfl, hc _ _ _ 11 _ rfl, hc _ _ _ 12 _ rfl, hc _ _ _ 15 _ rfl⟩
        · exact ((rowG_done HR.out (by omega)).later ((Below.refl _ _).alloc (Nat.le_refl _) _)).later ((Below.refl _ _).alloc (Nat.le_refl _) _)

theorem steps19 (w : World) (A P : Nat) (vc vn : Value) (L s : Int) (h : Asg w A P vc vn L) (hp : w.rowIs P 3 1 (fun _ => .int .i64 s)) : Calls Try.prog 19 #[.pointer (some ⟨A, 0, none⟩)] w fun e w' => e = .returned (.int .i64 s) ∧ w' = w := by
  have c15 := h.c15
  have cp := hp.cell (i := 0) (by omega)
  clear h hp
  go_enter Try.func19, Try.ntmps19
  go_wp2
  go_ret
  exact ⟨rfl, rfl⟩
end Go.Proofs.Qxb6601371a
