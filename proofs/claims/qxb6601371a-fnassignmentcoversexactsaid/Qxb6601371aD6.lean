import Derived.Test.Qxb6601371aD5
namespace Go.Proofs.Qxb6601371a
open Go.RowKit
set_option linter.unusedVariables false

/-- What the walk needs of the tree behind the slice. -/
def TreeOk (B0 : Nat) (w : World) (na : Option Addr) (nn l : Nat) (z : Nat → Int) (L : Int) (fr : Nat) (f1 : Int) : Prop :=
  (fr : Int) < f1 → ∃ (p b o : Nat), L = (l : Int) ∧ l = 2 ^ p ∧ l ≤ 65536 ∧ nn = 2 * l ∧ Heap l z ∧ na = some ⟨b, o, none⟩ ∧ f1 ≤ l ∧ ∀ W, Below B0 w W → Arr W (some ⟨b, o, none⟩) nn fun i => .int .i64 (z i)
theorem TreeOk.later {B0 : Nat} {w w' : World} {na : Option Addr} {nn l : Nat} {z : Nat → Int} {L : Int} {fr : Nat} {f1 : Int} (h : TreeOk B0 w na nn l z L fr f1) (hb : Below B0 w w') : TreeOk B0 w' na nn l z L fr f1 := fun hlt => by
  obtain ⟨p, b, o, g1, g2, g3, g4, g5, g6, g7, g8⟩ := h hlt
  exact ⟨p, b, o, g1, g2, g3, g4, g5, g6, g7, fun W hW => g8 W (hb.trans hW)⟩

set_option maxHeartbeats 1000000 in
theorem zz29 (w : World) (A P B n c B0 : Nat) (na : Option Addr) (nn nc l : Nat) (z X Y Z : Nat → Int) (L s f1 f2 bd cl : Int) (mg : Bool) (fr : Nat) (r0 : Bool) (r1 r2 r3 : Int) (r4 : Bool) (r5 : Int) (hA : Asg w A P (.slice (some ⟨B, 0, none⟩) n c) (.slice na nn nc) L) (hP : w.rowIs P 3 1 (fun _ => .int .i64 s)) (hne : A ≠ P ∧ B ≠ P) (hB : B0 ≤ P ∧ B0 ≤ w.heap.size) (hs0 : -9223372036854775808 ≤ s) (hs1 : s ≤ 9223372036854775807)
    (hcl : Cls w (some ⟨B, 0, none⟩) n X Y Z) (hfn : (fr : Int) < f1 → f1 ≤ n) (hn : n ≤ 65536) (hL : TreeOk B0 w na nn l z L fr f1) :
    Calls Try.prog 29 #[.pointer (some ⟨A, 0, none⟩), .agg #[.int .i64 (fr : Int), .int .i64 f1, .int .i64 f2, .int .i64 bd, .int .i64 cl, .bool mg], .agg #[.bool r0, .int .i64 r1, .int .i64 r2, .int .i64 r3, .bool r4, .int .i64 r5]] w (CovPost w A P (.slice (some ⟨B, 0, none⟩) n c) (.slice na nn nc) L (cov s (scan (gB z l bd) (okB Y Z r2 r3) fr f1.toNat))) := by
  obtain ⟨w0, hw0⟩ : ∃ w0, w0 = (w.alloc (.cells #[.int .i64 (fr : Int), .int .i64 f1, .int .i64 f2, .int .i64 bd, .int .i64 cl, .bool mg] 36)).alloc (.cells #[.bool r0, .int .i64 r1, .int .i64 r2, .int .i64 r3, .bool r4, .int .i64 r5] 75) := ⟨_, rfl⟩
  have hb : Below w.heap.size w w0 := by rw [hw0]; exact ((Below.refl _ _).alloc (Nat.le_refl _) _).alloc (by simp) _
  have hsz := hb.size
  have C := hid (covers30 w0 A P B n c B0 na nn nc l z X Y Z L s f1 f2 bd cl mg fr r0 r1 r2 r3 r4 r5 (hA.kept (hb.block _ hA.lt)) (hP.of_block (hb.block _ hP.lt)) hne ⟨hB.1, by omega⟩ hs0 hs1 (hcl.later hb) hfn hn (hL.later (hb.mono hB.2)))
  have HB := hid hb
  clear hA hP hcl hfn hL hb hne
  go_enter Try.func29, Try.ntmps29
  go_wp2_with fail
  rw [← hw0]
  clear hw0
  refine C.out.mono ?_
  rintro e w1 ⟨rfl, g1, g2, g3, g4, g5⟩
  have G := hid (And.intro g1 (And.intro g2 (And.intro g3 (And.intro g4 g5))))
  clear g1 g2 g3 g4 g5 C
  go_wp2_with fail
  go_ret
  obtain ⟨g1, g2, g3, g4, g5⟩ := G.out
  exact ⟨rfl, g1, g2, ⟨g3.1.trans HB.out.os, g3.2.1.trans HB.out.tape, g3.2.2.trans HB.out.output⟩, by omega, fun k hk hkp => (g5 k (by omega) hkp).trans (HB.out.block k hk)⟩

/-- A row of ints behind k rounds. -/
def rowI (X : Nat → Int) (k x : Nat) : Value := if x < k then .int .i64 (X x) else .int .i64 0
theorem rowI_step {wr : World} {b n k : Nat} {X : Nat → Int} (h : wr.rowIs b 2 n (rowI X k)) : (wr.setCell ⟨b, k, none⟩ (.int .i64 (X k))).rowIs b 2 n (rowI X (k + 1)) :=
  (h.set k _).congr fun i hi => step_if i k (fun j => .int .i64 (X j)) _
theorem rowI_done {wr : World} {b n : Nat} {X : Nat → Int} (h : wr.rowIs b 2 n (rowI X n)) (hn : n ≤ 65536) : Arr wr (some ⟨b, 0, none⟩) n fun i => .int .i64 (X i) :=
  Arr.ofRow (h.congr fun i hi => by simp [rowI, hi]) (by omega)
theorem rowI_made (w : World) (n : Nat) (X : Nat → Int) : (w.alloc (.cells (madeCells #[.int .i64 0] n) 2)).rowIs w.heap.size 2 n (rowI X 0) := (World.rowIs_made w _ n 2).congr (fun i hi => by simp [rowI])

/-- The three rows. -/
structure Rows3 (w0 wr : World) (b n : Nat) (X Y Z : Nat → Int) (k : Nat) : Prop where
  x : wr.rowIs b 2 n (rowI X k)
  y : wr.rowIs (b + 1) 2 n (rowI Y k)
  z : wr.rowIs (b + 2) 2 n (rowI Z k)
  bel : Below b w0 wr
theorem Rows3.step {w0 wr : World} {b n : Nat} {X Y Z : Nat → Int} {k : Nat} (h : Rows3 w0 wr b n X Y Z k) :
    Rows3 w0 (((wr.setCell ⟨b, k, none⟩ (.int .i64 (X k))).setCell ⟨b + 1, k, none⟩ (.int .i64 (Y k))).setCell ⟨b + 2, k, none⟩ (.int .i64 (Z k))) b n X Y Z (k + 1) :=
  ⟨((rowI_step h.x).setOther (a := ⟨b + 1, k, none⟩) (by simp) _).setOther (a := ⟨b + 2, k, none⟩) (by simp) _,
   (rowI_step (h.y.setOther (a := ⟨b, k, none⟩) (by simp) _)).setOther (a := ⟨b + 2, k, none⟩) (by simp) _,
   rowI_step ((h.z.setOther (a := ⟨b, k, none⟩) (by simp) _).setOther (a := ⟨b + 1, k, none⟩) (by simp) _),
   ((h.bel.setCell (p := ⟨b, k, none⟩) (Nat.le_refl _) _).setCell (p := ⟨b + 1, k, none⟩) (by simp) _).setCell (p := ⟨b + 2, k, none⟩) (by simp) _⟩

def CoversPost (w : World) (q : Bool × Int) (e : Ending) (w' : World) : Prop := e = .returned (.tuple #[.bool q.1, .int .i64 q.2]) ∧ Below w.heap.size w w'

set_option maxRecDepth 100000 in
set_option maxHeartbeats 4000000 in
theorem covers23 (w : World) (n c : Nat) (na a3 : Option Addr) (nn nc l : Nat) (z X Y Z : Nat → Int) (L s f1 f2 bd cl : Int) (mg : Bool) (fr : Nat) (r0 : Bool) (r1 r2 r3 : Int) (r4 : Bool) (r5 : Int) (hs0 : -9223372036854775808 ≤ s) (hs1 : s ≤ 9223372036854775807)
    (hcl : Cls w a3 n X Y Z) (hfn : (fr : Int) < f1 → f1 ≤ n) (hn : n ≤ 65536) (hL : TreeOk w.heap.size w na nn l z L fr f1) :
    Calls Try.prog 23 #[.int .i64 s, .int .i64 L, .slice na nn nc, .slice a3 n c, .agg #[.int .i64 (fr : Int), .int .i64 f1, .int .i64 f2, .int .i64 bd, .int .i64 cl, .bool mg], .agg #[.bool r0, .int .i64 r1, .int .i64 r2, .int .i64 r3, .bool r4, .int .i64 r5]] w (CoversPost w (cov s (scan (gB z l bd) (okB Y Z r2 r3) fr f1.toNat))) := by
  have hmk := run_make_row' (P := Try.prog) 22 2 (.int .i64 0) _ Try.underlying22 Try.info2 rfl .i64 .i64 n (by omega) (by omega)
  obtain ⟨w0, hw0⟩ : ∃ w0, w0 = (w.alloc (.cells #[.int .i64 (fr : Int), .int .i64 f1, .int .i64 f2, .int .i64 bd, .int .i64 cl, .bool mg] 29)).alloc (.cells #[.bool r0, .int .i64 r1, .int .i64 r2, .int .i64 r3, .bool r4, .int .i64 r5] 43) := ⟨_, rfl⟩
  have hb : Below w.heap.size w w0 := by rw [hw0]; exact ((Below.refl _ _).alloc (Nat.le_refl _) _).alloc (by simp) _
  obtain ⟨w1, hw1⟩ : ∃ w1, w1 = ((w0.alloc (.cells (madeCells #[.int .i64 0] n) 2)).alloc (.cells (madeCells #[.int .i64 0] n) 2)).alloc (.cells (madeCells #[.int .i64 0] n) 2) := ⟨_, rfl⟩
  have hsz0 : w0.heap.size = w.heap.size + 2 := by rw [hw0]; simp
  have R0 := hid (show Rows3 w0 w1 (w.heap.size + 2) n X Y Z 0 by
    have e0 : w.heap.size + 2 = w0.heap.size := hsz0.symm
    have e1 : (w0.alloc (.cells (madeCells #[.int .i64 0] n) 2)).heap.size = w0.heap.size + 1 := by simp
    have e2 : ((w0.alloc (.cells (madeCells #[.int .i64 0] n) 2)).alloc (.cells (madeCells #[.int .i64 0] n) 2)).heap.size = w0.heap.size + 2 := by simp
    rw [e0, hw1]
    refine ⟨((rowI_made _ n X).alloc _).alloc _, ?_, ?_, (((Below.refl _ _).alloc (Nat.le_refl _) _).alloc (by omega) _).alloc (by omega) _⟩
    · have h := (rowI_made (w0.alloc (.cells (madeCells #[.int .i64 0] n) 2)) n Y).alloc (.cells (madeCells #[.int .i64 0] n) 2)
      rw [e1] at h
      exact h
    · have h := rowI_made ((w0.alloc (.cells (madeCells #[.int .i64 0] n) 2)).alloc (.cells (madeCells #[.int .i64 0] n) 2)) n Z
      rw [e2] at h
      exact h)
  have hfc := fun (i : Nat) (v : Value) (hv : #[Value.int .i64 (fr : Int), .int .i64 f1, .int .i64 f2, .int .i64 bd, .int .i64 cl, .bool mg][i]? = some v) => (show w0.cell? ⟨w.heap.size, i, none⟩ = some v by
    rw [hw0]
    exact cell_alloc (resC (t := 29) (heap_last _ _) i v hv) _)
  have hrc := fun (i : Nat) (v : Value) (hv : #[Value.bool r0, .int .i64 r1, .int .i64 r2, .int .i64 r3, .bool r4, .int .i64 r5][i]? = some v) => (show w0.cell? ⟨w.heap.size + 1, i, none⟩ = some v by
    have e1 : (w.alloc (.cells #[.int .i64 (fr : Int), .int .i64 f1, .int .i64 f2, .int .i64 bd, .int .i64 cl, .bool mg] 29)).heap.size = w.heap.size + 1 := by simp
    rw [hw0, ← e1]
    exact resC (t := 43) (heap_last _ _) i v hv)
  have FC := hid hfc
  have RC := hid hrc
  have HB := hid hb
  have HL := hid hL
  have HFN := hid hfn
  have CL := hid (hcl.later hb)
  obtain ⟨q, hq⟩ : ∃ q, q = cov s (scan (gB z l bd) (okB Y Z r2 r3) fr f1.toNat) := ⟨_, rfl⟩
  rw [← hq]
  have HQ := hid hq
  clear hfc hrc hcl hL hb hfn hq
  go_enter Try.func23, Try.ntmps23
  go_wp2_with fail
  rw [← hw0, ← hw1]
  clear hw0 hw1 hmk
  go_loopw [18] (fun i wr => ∃ k : Nat, k ≤ n ∧ i = .int .i64 k ∧ Rows3 w0 wr (w.heap.size + 2) n X Y Z k) (fun i _ => n - (intOf i).toNat)
  case atStart => exact ⟨0, Nat.zero_le _, rfl, R0.out⟩
  case round =>
    obtain ⟨k, hk, rfl, hr⟩ := hrel
    clear R0
    by_cases hlt : k < n
    · obtain ⟨b, off, rfl, hc0, hc1, hc2⟩ := CL.out.at hlt
      have hbb := hr.bel
      rw [← hsz0] at hbb
      have d0 := cell_later hbb hc0
      have d1 := cell_later hbb hc1
      have d2 := cell_later hbb hc2
      have hbl := World.block_lt_of_cell? _ _ hc0
      simp only at hbl
      have m0 := hr.x.cell (i := k) hlt
      have m1 := hr.y.cell (i := k) hlt
      have m2 := hr.z.cell (i := k) hlt
      have g0 := hr.x.frozen k
      have g1 := hr.y.frozen k
      have g2 := hr.z.frozen k
      have hst := hid hr.step
      have i1 : (k : Int) < (n : Int) := by omega
      clear hr hbb hc0 hc1 hc2
      go_wp2
      go_roundw
      case rel => exact ⟨k + 1, by omega, by go_num, hst.out⟩
      case measure => simp [intOf]; omega
    · obtain rfl : k = n := by omega
      rename World => W
      have hbb := hr.bel
      rw [← hsz0] at hbb
      have hWs := hbb.size
      have C16 := hid (make16 s L na (some ⟨w.heap.size + 2, 0, none⟩) (some ⟨w.heap.size + 2 + 1, 0, none⟩) (some ⟨w.heap.size + 2 + 2, 0, none⟩) nn nc k k k k X Y Z W hn (rowI_done hr.x hn) (rowI_done hr.y hn) (rowI_done hr.z hn))
      have HW := hid hbb
      clear hr hbb hlt
      go_wp2_with fail
      refine C16.out.mono ?_
      rintro e w2 ⟨A, P, B, c', rfl, hA, hP, hcl, hAP, hBP, gA, gP, gB, hb2⟩
      have H2 := hid (HW.out.trans (hb2.mono hWs))
      have S2 := hid (And.intro hA (And.intro hP hcl))
      have hs2 := hb2.size
      clear hA hP hcl hb2 C16
      have y0 := cell_later H2.out (FC.out 0 _ rfl)
      have y1 := cell_later H2.out (FC.out 1 _ rfl)
      have y2 := cell_later H2.out (FC.out 2 _ rfl)
      have y3 := cell_later H2.out (FC.out 3 _ rfl)
      have y4 := cell_later H2.out (FC.out 4 _ rfl)
      have y5 := cell_later H2.out (FC.out 5 _ rfl)
      have x0 := cell_later H2.out (RC.out 0 _ rfl)
      have x1 := cell_later H2.out (RC.out 1 _ rfl)
      have x2 := cell_later H2.out (RC.out 2 _ rfl)
      have x3 := cell_later H2.out (RC.out 3 _ rfl)
      have x4 := cell_later H2.out (RC.out 4 _ rfl)
      have x5 := cell_later H2.out (RC.out 5 _ rfl)
      clear HW
      go_wp2_with fail
      refine (choices17 _ _ _ _ _ _ w2).mono ?_
      rintro e w3 ⟨rfl, hw3⟩
      obtain rfl := hw3.symm
      clear hw3
      have hb4 : Below w2.heap.size w2 ((w2.alloc (.cells #[.int .i64 (fr : Int), .int .i64 f1, .int .i64 f2, .int .i64 bd, .int .i64 cl, .bool mg] 36)).alloc (.cells #[.int .i64 (fr : Int), .int .i64 f1, .int .i64 f2, .int .i64 bd, .int .i64 cl, .bool mg] 36)) := ((Below.refl _ _).alloc (Nat.le_refl _) _).alloc (by simp) _
      have e4 : (w2.alloc (.cells #[.int .i64 (fr : Int), .int .i64 f1, .int .i64 f2, .int .i64 bd, .int .i64 cl, .bool mg] 36)).heap.size = w2.heap.size + 1 := by simp
      have hc4 := fun (i : Nat) (v : Value) (hv : (#[.int .i64 (fr : Int), .int .i64 f1, .int .i64 f2, .int .i64 bd, .int .i64 cl, .bool mg] : Array Value)[i]? = some v) => (show ((w2.alloc (.cells #[.int .i64 (fr : Int), .int .i64 f1, .int .i64 f2, .int .i64 bd, .int .i64 cl, .bool mg] 36)).alloc (.cells #[.int .i64 (fr : Int), .int .i64 f1, .int .i64 f2, .int .i64 bd, .int .i64 cl, .bool mg] 36)).cell? ⟨w2.heap.size + 1, i, none⟩ = some v by
        rw [← e4]
        exact resC (t := 36) (heap_last _ _) i v hv)
      have hs4 : ((w2.alloc (.cells #[.int .i64 (fr : Int), .int .i64 f1, .int .i64 f2, .int .i64 bd, .int .i64 cl, .bool mg] 36)).alloc (.cells #[.int .i64 (fr : Int), .int .i64 f1, .int .i64 f2, .int .i64 bd, .int .i64 cl, .bool mg] 36)).heap.size = w2.heap.size + 2 := by simp
      obtain ⟨w4, hw4⟩ : ∃ w4, w4 = (w2.alloc (.cells #[.int .i64 (fr : Int), .int .i64 f1, .int .i64 f2, .int .i64 bd, .int .i64 cl, .bool mg] 36)).alloc (.cells #[.int .i64 (fr : Int), .int .i64 f1, .int .i64 f2, .int .i64 bd, .int .i64 cl, .bool mg] 36) := ⟨_, rfl⟩
      rw [← hw4] at hb4 hc4 hs4
      have HB4 := hid hb4
      have HC4 := hid hc4
      have HS4 := hid hs4
      have X0 := hid (cell_later hb4 x0)
      have X1 := hid (cell_later hb4 x1)
      have X2 := hid (cell_later hb4 x2)
      have X3 := hid (cell_later hb4 x3)
      have X4 := hid (cell_later hb4 x4)
      have X5 := hid (cell_later hb4 x5)
      clear hb4 hc4 e4 hs4 x0 x1 x2 x3 x4 x5
      go_upto_region 13 with fail
      rw [← hw4]
      clear hw4 y0 y1 y2 y3 y4 y5
      have x0 := X0.out
      have x1 := X1.out
      have x2 := X2.out
      have x3 := X3.out
      have x4 := X4.out
      have x5 := X5.out
      clear X0 X1 X2 X3 X4 X5
      go_wp2_with fail
      refine (read28 _ _ _ _ _ _ w4).mono ?_
      rintro e w5 ⟨rfl, hw5⟩
      obtain rfl := hw5.symm
      clear hw5 x0 x1 x2 x3 x4 x5
      have hb6 : Below w4.heap.size w4 ((w4.alloc (.cells #[.bool r0, .int .i64 r1, .int .i64 r2, .int .i64 r3, .bool r4, .int .i64 r5] 75)).alloc (.cells #[.bool r0, .int .i64 r1, .int .i64 r2, .int .i64 r3, .bool r4, .int .i64 r5] 75)) := ((Below.refl _ _).alloc (Nat.le_refl _) _).alloc (by simp) _
      have e6 : (w4.alloc (.cells #[.bool r0, .int .i64 r1, .int .i64 r2, .int .i64 r3, .bool r4, .int .i64 r5] 75)).heap.size = w4.heap.size + 1 := by simp
      have hc6 := fun (i : Nat) (v : Value) (hv : (#[.bool r0, .int .i64 r1, .int .i64 r2, .int .i64 r3, .bool r4, .int .i64 r5] : Array Value)[i]? = some v) => (show ((w4.alloc (.cells #[.bool r0, .int .i64 r1, .int .i64 r2, .int .i64 r3, .bool r4, .int .i64 r5] 75)).alloc (.cells #[.bool r0, .int .i64 r1, .int .i64 r2, .int .i64 r3, .bool r4, .int .i64 r5] 75)).cell? ⟨w4.heap.size + 1, i, none⟩ = some v by
        rw [← e6]
        exact resC (t := 75) (heap_last _ _) i v hv)
      obtain ⟨w6, hw6⟩ : ∃ w6, w6 = (w4.alloc (.cells #[.bool r0, .int .i64 r1, .int .i64 r2, .int .i64 r3, .bool r4, .int .i64 r5] 75)).alloc (.cells #[.bool r0, .int .i64 r1, .int .i64 r2, .int .i64 r3, .bool r4, .int .i64 r5] 75) := ⟨_, rfl⟩
      rw [← hw6] at hb6 hc6
      have HB6 := hid hb6
      have HC6 := hid hc6
      clear hb6 hc6 e6
      go_upto_region 14 with fail
      rw [← hw6]
      clear hw6
      have u0 := cell_later HB6.out (HC4.out 0 _ rfl)
      have u1 := cell_later HB6.out (HC4.out 1 _ rfl)
      have u2 := cell_later HB6.out (HC4.out 2 _ rfl)
      have u3 := cell_later HB6.out (HC4.out 3 _ rfl)
      have u4 := cell_later HB6.out (HC4.out 4 _ rfl)
      have u5 := cell_later HB6.out (HC4.out 5 _ rfl)
      have x0 := HC6.out 0 _ rfl
      have x1 := HC6.out 1 _ rfl
      have x2 := HC6.out 2 _ rfl
      have x3 := HC6.out 3 _ rfl
      have x4 := HC6.out 4 _ rfl
      have x5 := HC6.out 5 _ rfl
      obtain ⟨hA, hP, hcl⟩ := S2.out
      have hb26 := HB4.out.trans (HB6.out.mono HB4.out.size)
      have hw0s := HB.out.size
      have hB02 : Below w.heap.size w w2 := HB.out.trans (H2.out.mono hw0s)
      have hB06 : Below w.heap.size w w6 := hB02.trans (hb26.mono hB02.size)
      have H6 := hid hB06
      have h6s := hB06.size
      have h26 := hb26.size
      have C29 := hid (zz29 w6 A P B k c' w.heap.size na nn nc l z X Y Z L s f1 f2 bd cl mg fr r0 r1 r2 r3 r4 r5 (hA.kept (hb26.block _ hA.lt)) (hP.of_block (hb26.block _ hP.lt)) ⟨hAP, hBP⟩ ⟨by omega, h6s⟩ hs0 hs1 (hcl.later hb26) HFN.out hn (HL.out.later hB06))
      rw [← HQ.out] at C29
      have HP2 := hid hP.lt
      clear hA hP hcl hb26 hB02 hB06 S2 HC4 HC6
      go_wp2_with fail
      refine C29.out.mono ?_
      rintro e w7 ⟨rfl, g1, g2, g3, g4, g5⟩
      have C19 := hid (steps19 w7 A P _ _ L q.2 g1 g2)
      have G3 := hid (show Below w.heap.size w w7 from ⟨g3.1.trans H6.out.os, g3.2.1.trans H6.out.tape, g3.2.2.trans H6.out.output, by omega, fun j hj => (g5 j (by omega) (by omega)).trans (H6.out.block j hj)⟩)
      clear g1 g2 g3 g4 g5 u0 u1 u2 u3 u4 u5 x0 x1 x2 x3 x4 x5 C29
      go_wp2_with fail
      refine C19.out.mono ?_
      rintro e w8 ⟨rfl, hw8⟩
      obtain rfl := hw8.symm
      clear hw8 C19
      go_wp2_with fail
      exact bodyPost_ret (v := .tuple #[.bool q.1, .int .i64 q.2]) (by simp [results, Try.results23, go_sem]) rfl ⟨rfl, G3.out⟩
end Go.Proofs.Qxb6601371a
