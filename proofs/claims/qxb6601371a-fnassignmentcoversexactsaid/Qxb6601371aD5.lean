import Derived.Test.Qxb6601371aD4
import Derived.Test.Qxb6601371aP2
namespace Go.Proofs.Qxb6601371a
open Go.RowKit
set_option linter.unusedVariables false

theorem held9 {B : Nat} {w W W' : World} {p0 p1 p2 p3 p4 p5 p6 p7 p8 : Addr} {v0 v1 v2 v3 v4 v5 v6 v7 v8 : Value} (h : W.cell? p0 = some v0 ∧ W.cell? p1 = some v1 ∧ W.cell? p2 = some v2 ∧ W.cell? p3 = some v3 ∧ W.cell? p4 = some v4 ∧ W.cell? p5 = some v5 ∧ W.cell? p6 = some v6 ∧ W.cell? p7 = some v7 ∧ W.cell? p8 = some v8 ∧ Below B w W) (hb : Below W.heap.size W W') (hB : B ≤ W.heap.size) : W'.cell? p0 = some v0 ∧ W'.cell? p1 = some v1 ∧ W'.cell? p2 = some v2 ∧ W'.cell? p3 = some v3 ∧ W'.cell? p4 = some v4 ∧ W'.cell? p5 = some v5 ∧ W'.cell? p6 = some v6 ∧ W'.cell? p7 = some v7 ∧ W'.cell? p8 = some v8 ∧ Below B w W' := by
  obtain ⟨h0, h1, h2, h3, h4, h5, h6, h7, h8, hl⟩ := h
  exact ⟨cell_later hb h0, cell_later hb h1, cell_later hb h2, cell_later hb h3, cell_later hb h4, cell_later hb h5, cell_later hb h6, cell_later hb h7, cell_later hb h8, hl.trans (hb.mono hB)⟩
theorem bel9 {B : Nat} {w W : World} {p0 p1 p2 p3 p4 p5 p6 p7 p8 : Addr} {v0 v1 v2 v3 v4 v5 v6 v7 v8 : Value} (h : W.cell? p0 = some v0 ∧ W.cell? p1 = some v1 ∧ W.cell? p2 = some v2 ∧ W.cell? p3 = some v3 ∧ W.cell? p4 = some v4 ∧ W.cell? p5 = some v5 ∧ W.cell? p6 = some v6 ∧ W.cell? p7 = some v7 ∧ W.cell? p8 = some v8 ∧ Below B w W) : Below B w W := by
  obtain ⟨_, _, _, _, _, _, _, _, _, hl⟩ := h
  exact hl
theorem same9 {B : Nat} {w W W' : World} {p0 p1 p2 p3 p4 p5 p6 p7 p8 : Addr} {v0 v1 v2 v3 v4 v5 v6 v7 v8 : Value} (h : W.cell? p0 = some v0 ∧ W.cell? p1 = some v1 ∧ W.cell? p2 = some v2 ∧ W.cell? p3 = some v3 ∧ W.cell? p4 = some v4 ∧ W.cell? p5 = some v5 ∧ W.cell? p6 = some v6 ∧ W.cell? p7 = some v7 ∧ W.cell? p8 = some v8 ∧ Below B w W) (e1 : W'.heap = W.heap) (e2 : W'.os = W.os) (e3 : W'.tape = W.tape) (e4 : W'.output = W.output) : W'.cell? p0 = some v0 ∧ W'.cell? p1 = some v1 ∧ W'.cell? p2 = some v2 ∧ W'.cell? p3 = some v3 ∧ W'.cell? p4 = some v4 ∧ W'.cell? p5 = some v5 ∧ W'.cell? p6 = some v6 ∧ W'.cell? p7 = some v7 ∧ W'.cell? p8 = some v8 ∧ Below B w W' := by
  have hc : ∀ a, W'.cell? a = W.cell? a := fun a => by simp only [World.cell?, e1]
  simp only [hc]
  obtain ⟨h0, h1, h2, h3, h4, h5, h6, h7, h8, hl⟩ := h
  exact ⟨h0, h1, h2, h3, h4, h5, h6, h7, h8, ⟨e2.trans hl.os, e3.trans hl.tape, e4.trans hl.output, by rw [e1]; exact hl.size, fun k hk => by rw [e1]; exact hl.block k hk⟩⟩

/-- Would the read change nothing of the cluster? -/
def okB (Y Z : Nat → Int) (r2 r3 : Int) (j : Nat) : Bool := decide (r2 ≤ Y j ∧ Z j ≤ r3)

/-- The loop of covers: what the answer will be. -/
def CRel (w1 : World) (A P C R B n c : Nat) (vn : Value) (L bd cl : Int) (mg : Bool) (fr tt l : Nat) (z X Y Z : Nat → Int) (r0 : Bool) (r1 r2 r3 : Int) (r4 : Bool) (bF : Bool) (sF : Int) (v7 : Value) (wr : World) : Prop :=
  ∃ (r s' rt' : Int), v7 = .int .i64 r ∧ NSt wr A P C (.slice (some ⟨B, 0, none⟩) n c) vn L s' fr rt' bd cl mg ∧ TwoK P C w1 wr ∧ -1 ≤ s' ∧ s' ≤ 9223372036854775807 ∧
    ((r = -1 ∧ Hid ((bF, sF) = (false, s'))) ∨ ∃ i : Nat, r = i ∧ fr ≤ i ∧ i < tt ∧ rt' = i ∧ Hid ((bF, sF) = if okB Y Z r2 r3 i = true then (true, s') else cov s' (scan (gB z l bd) (okB Y Z r2 r3) fr i)))

theorem CRel.of {w1 w wr : World} {A P C R B n c : Nat} {vn : Value} {L bd cl : Int} {mg : Bool} {fr tt l : Nat} {z X Y Z : Nat → Int} {r0 : Bool} {r1 r2 r3 : Int} {r4 : Bool} {bF : Bool} {sF : Int} {s rt : Int} (hs1 : s ≤ 9223372036854775807) (hT : TwoK P C w1 w) (hrt : rt ≤ tt) (hF : (bF, sF) = cov s (scan (gB z l bd) (okB Y Z r2 r3) fr rt.toNat))
    {r s' rt' : Int} (hN : NSt wr A P C (.slice (some ⟨B, 0, none⟩) n c) vn L s' fr rt' bd cl mg) (hTT : TwoK P C w wr) (h : (s ≤ 0 ∧ r = -1 ∧ s' = -1) ∨ (0 < s ∧ s' = s - 1 ∧ NextR l z fr rt bd r rt')) :
    CRel w1 A P C R B n c vn L bd cl mg fr tt l z X Y Z r0 r1 r2 r3 r4 bF sF (.int .i64 r) wr := by
  rcases h with ⟨h1, rfl, rfl⟩ | ⟨h1, rfl, h2⟩
  · exact ⟨-1, -1, rt', rfl, hN, hT.trans hTT, by omega, by omega, .inl ⟨rfl, hid (by rw [hF]; exact cov_spent h1 (scan_pos _))⟩⟩
  · rcases h2 with ⟨h3, rfl⟩ | ⟨h3, h4, h5⟩
    · refine ⟨-1, s - 1, rt', rfl, hN, hT.trans hTT, by omega, by omega, .inl ⟨rfl, hid ?_⟩⟩
      rw [hF, scan_low (by omega)]
      exact cov_none h1
    · rcases last_scan (ok := okB Y Z r2 r3) h4 with ⟨rfl, h6⟩ | ⟨i, rfl, h6, h7, h8⟩
      · refine ⟨-1, s - 1, rt', rfl, hN, hT.trans hTT, by omega, by omega, .inl ⟨rfl, hid ?_⟩⟩
        rw [hF, h6]
        exact cov_none h1
      · refine ⟨i, s - 1, rt', rfl, hN, hT.trans hTT, by omega, by omega, .inr ⟨i, rfl, h6, by omega, h5 (by omega), hid ?_⟩⟩
        rw [hF, h8]
        split
        · exact cov_hit h1
        · exact cov_miss _ _

/-- What covers answers. -/
def CovPost (w : World) (A P : Nat) (vc vn : Value) (L : Int) (q : Bool × Int) (e : Ending) (w' : World) : Prop :=
  e = .returned (.bool q.1) ∧ Asg w' A P vc vn L ∧ w'.rowIs P 3 1 (fun _ => .int .i64 q.2) ∧ (w'.os = w.os ∧ w'.tape = w.tape ∧ w'.output = w.output) ∧ w.heap.size ≤ w'.heap.size ∧ ∀ k, k < w.heap.size → k ≠ P → w'.heap[k]? = w.heap[k]?

theorem heap_last (W : World) (o : Obj) : (W.alloc o).heap[W.heap.size]? = some o := by
  show (W.heap.push o)[W.heap.size]? = some o
  simp
theorem TwoK.cell {P C : Nat} {w W : World} (h : TwoK P C w W) {p : Addr} {v : Value} (hp : w.cell? p = some v) (h1 : p.block ≠ P) (h2 : p.block ≠ C) : W.cell? p = some v :=
  (World.cell?_of_block (h.block p.block (World.block_lt_of_cell? _ _ hp) h1 h2)).trans hp

set_option maxRecDepth 100000 in
set_option maxHeartbeats 4000000 in
theorem covers30 (w : World) (A P B n c B0 : Nat) (na : Option Addr) (nn nc l : Nat) (z X Y Z : Nat → Int) (L s f1 f2 bd cl : Int) (mg : Bool) (fr : Nat) (r0 : Bool) (r1 r2 r3 : Int) (r4 : Bool) (r5 : Int) (hA : Asg w A P (.slice (some ⟨B, 0, none⟩) n c) (.slice na nn nc) L) (hP : w.rowIs P 3 1 (fun _ => .int .i64 s)) (hne : A ≠ P ∧ B ≠ P) (hB : B0 ≤ P ∧ B0 ≤ w.heap.size) (hs0 : -9223372036854775808 ≤ s) (hs1 : s ≤ 9223372036854775807)
    (hcl : Cls w (some ⟨B, 0, none⟩) n X Y Z) (hfn : (fr : Int) < f1 → f1 ≤ n) (hn : n ≤ 65536)
    (hL : (fr : Int) < f1 → ∃ (p b o : Nat), L = (l : Int) ∧ l = 2 ^ p ∧ l ≤ 65536 ∧ nn = 2 * l ∧ Heap l z ∧ na = some ⟨b, o, none⟩ ∧ f1 ≤ l ∧ ∀ W, Below B0 w W → Arr W (some ⟨b, o, none⟩) nn fun i => .int .i64 (z i)) :
    Calls Try.prog 30 #[.pointer (some ⟨A, 0, none⟩), .agg #[.int .i64 (fr : Int), .int .i64 f1, .int .i64 f2, .int .i64 bd, .int .i64 cl, .bool mg], .agg #[.bool r0, .int .i64 r1, .int .i64 r2, .int .i64 r3, .bool r4, .int .i64 r5]] w (CovPost w A P (.slice (some ⟨B, 0, none⟩) n c) (.slice na nn nc) L (cov s (scan (gB z l bd) (okB Y Z r2 r3) fr f1.toNat))) := by
  have HL := hid hL
  clear hL
  have hAl := hA.lt
  have hPl := hP.lt
  have hBl : 0 < n → B < w.heap.size := fun h => by
    obtain ⟨b, off, e, h0, _⟩ := hcl.at (k := 0) h
    cases e
    exact World.block_lt_of_cell? _ _ h0
  -- the world behind the two boxes and the store
  obtain ⟨w1, hw1⟩ : ∃ w1, w1 = (w.alloc (.cells #[.int .i64 (fr : Int), .int .i64 f1, .int .i64 (fr : Int), .int .i64 bd, .int .i64 cl, .bool mg] 36)).alloc (.cells #[.bool r0, .int .i64 r1, .int .i64 r2, .int .i64 r3, .bool r4, .int .i64 r5] 75) := ⟨_, rfl⟩
  have e1 : (w.alloc (.cells #[.int .i64 (fr : Int), .int .i64 f1, .int .i64 (fr : Int), .int .i64 bd, .int .i64 cl, .bool mg] 36)).heap.size = w.heap.size + 1 := by simp
  have hb1 : Below w.heap.size w w1 := by rw [hw1]; exact ((Below.refl _ _).alloc (Nat.le_refl _) _).alloc (by omega) _
  have hcrow : w1.rowIs w.heap.size 36 6 (chF fr f1 fr bd cl mg) := by
    rw [hw1]
    refine World.rowIs.alloc (World.rowIs_alloc w _ 36 _ fun i hi => ?_) _
    have hi' : i < 6 := hi
    match i, hi' with
    | 0, _ => rfl
    | 1, _ => rfl
    | 2, _ => rfl
    | 3, _ => rfl
    | 4, _ => rfl
    | 5, _ => rfl
    | i + 6, h => exact absurd h (by omega)
  have hrr := fun (i : Nat) (v : Value) (hv : #[Value.bool r0, .int .i64 r1, .int .i64 r2, .int .i64 r3, .bool r4, .int .i64 r5][i]? = some v) => (show w1.cell? ⟨w.heap.size + 1, i, none⟩ = some v by
    rw [hw1, ← e1]
    exact resC (t := 75) (heap_last _ _) i v hv)
  have N1 := hid (show NSt w1 A P w.heap.size (.slice (some ⟨B, 0, none⟩) n c) (.slice na nn nc) L s fr f1 bd cl mg from ⟨hA.kept (hb1.block _ hAl), hP.of_block (hb1.block _ hPl), hcrow, by omega⟩)
  have hs1w : w1.heap.size = w.heap.size + 2 := by rw [hw1]; simp
  have R0 := hid (hrr 0 _ rfl)
  have R1 := hid (hrr 1 _ rfl)
  have R2 := hid (hrr 2 _ rfl)
  have R3 := hid (hrr 3 _ rfl)
  have R4 := hid (hrr 4 _ rfl)
  have CL := hid (hcl.later hb1)
  have HB1 := hid hb1
  have HBl := hid hBl
  have HFN := hid hfn
  have NX := hid (fun (W : World) (s' rt' : Int) (hW : TwoK P w.heap.size w1 W) (hN : NSt W A P w.heap.size (.slice (some ⟨B, 0, none⟩) n c) (.slice na nn nc) L s' fr rt' bd cl mg) (h0 : -9223372036854775808 ≤ s') (h1 : s' ≤ 9223372036854775807) (hr : rt' ≤ f1) =>
    next27 W A P w.heap.size B0 (.slice (some ⟨B, 0, none⟩) n c) na nn nc l z L s' fr rt' bd cl mg hN ⟨hB.1, hB.2, by have := hW.size; omega⟩ (Int.natCast_nonneg _) h0 h1 (fun hlt => by
      obtain ⟨p, b, o, g1, g2, g3, g4, g5, g6, g7, g8⟩ := HL.out (by omega)
      exact ⟨p, b, o, g1, g2, g3, g4, g5, g6, by omega, fun W' hW' => g8 W' ((hb1.mono hB.2).trans ((show Below B0 w1 W from ⟨hW.os, hW.tape, hW.output, hW.size, fun k hk => hW.block k (by omega) (by omega) (by omega)⟩).trans hW'))⟩))
  obtain ⟨q, hq⟩ : ∃ q, q = cov s (scan (gB z l bd) (okB Y Z r2 r3) fr f1.toNat) := ⟨_, rfl⟩
  rw [← hq]
  obtain ⟨bF, sF⟩ := q
  have HQ := hid hq
  have hft : f1 ≤ ((f1.toNat : Nat) : Int) := by omega
  have HTT := hid hft
  have hq61 := eql61
  clear hA hP hcl hfn HL hcrow hrr hq hft hBl hb1
  go_enter Try.func30, Try.ntmps30
  go_wp2_with fail
  rw [← hw1]
  clear hw1 e1
  refine (NX.out w1 s f1 (TwoK.refl _ _ _) N1.out hs0 hs1 (Int.le_refl _)).mono ?_
  rintro e w2 ⟨ra, s2, rt2, rfl, hN2, hT2, hc2⟩
  have S0 := hid (CRel.of (w1 := w1) (R := w.heap.size + 1) (tt := f1.toNat) (X := X) (r0 := r0) (r1 := r1) (r4 := r4) hs1 (TwoK.refl _ _ _) HTT.out HQ.out hN2 hT2 hc2)
  clear hN2 hT2 hc2
  go_wp2_with fail
  go_loopw [7] (fun v7 wr => CRel w1 A P w.heap.size (w.heap.size + 1) B n c (.slice na nn nc) L bd cl mg fr f1.toNat l z X Y Z r0 r1 r2 r3 r4 bF sF v7 wr) (fun v7 _ => (intOf v7 + 1).toNat)
  case atStart => exact S0.out
  case round =>
    clear S0
    obtain ⟨r, s', rt', rfl, hN, hT, hlo, hhi, hcase⟩ := hrel
    rcases hcase with ⟨rfl, hF⟩ | ⟨i, rfl, hi1, hi2, rfl, hF⟩
    · have HN := hid hN
      have HT := hid hT
      have HF := hF
      clear hN hT hF
      go_wp2_with fail
      go_ret
      have e := HF.out
      cases e
      exact ⟨rfl, HN.out.a, HN.out.p, ⟨HT.out.os.trans HB1.out.os, HT.out.tape.trans HB1.out.tape, HT.out.output.trans HB1.out.output⟩, by have := HT.out.size; omega, fun k hk hkp => (HT.out.block k (by omega) hkp (by omega)).trans (HB1.out.block k hk)⟩
    · have hin : i < n := by have := HFN.out (by omega); omega
      have hBl := HBl.out (by omega)
      obtain ⟨b', off', eb, k0, k1, k2⟩ := CL.out.at hin
      simp only [Option.some.injEq, Addr.mk.injEq, and_true] at eb
      obtain ⟨rfl, rfl⟩ := eb
      have a1 := hN.a.c1
      have x0 := hT.cell k0 hne.2 (by simp only; omega)
      have x1 := hT.cell k1 hne.2 (by simp only; omega)
      have x2 := hT.cell k2 hne.2 (by simp only; omega)
      have y0 := hT.cell R0.out (by simp only; omega) (by simp only; omega)
      have y1 := hT.cell R1.out (by simp only; omega) (by simp only; omega)
      have y2 := hT.cell R2.out (by simp only; omega) (by simp only; omega)
      have y3 := hT.cell R3.out (by simp only; omega) (by simp only; omega)
      have y4 := hT.cell R4.out (by simp only; omega) (by simp only; omega)
      rw [Nat.zero_add] at x0 x1 x2
      have H0 := hid (show wr.cell? ⟨A, 1, none⟩ = some (.slice (some ⟨B, 0, none⟩) n c) ∧ wr.cell? ⟨B, i * 3, none⟩ = some (.int .i64 (X i)) ∧ wr.cell? ⟨B, i * 3 + 1, none⟩ = some (.int .i64 (Y i)) ∧ wr.cell? ⟨B, i * 3 + 2, none⟩ = some (.int .i64 (Z i)) ∧ wr.cell? ⟨w.heap.size + 1, 0, none⟩ = some (.bool r0) ∧ wr.cell? ⟨w.heap.size + 1, 1, none⟩ = some (.int .i64 r1) ∧ wr.cell? ⟨w.heap.size + 1, 2, none⟩ = some (.int .i64 r2) ∧ wr.cell? ⟨w.heap.size + 1, 3, none⟩ = some (.int .i64 r3) ∧ wr.cell? ⟨w.heap.size + 1, 4, none⟩ = some (.bool r4) ∧ Below wr.heap.size wr wr from ⟨a1, x0, x1, x2, y0, y1, y2, y3, y4, Below.refl _ _⟩)
      have HN := hid hN
      have HT := hid hT
      obtain ⟨ok, hok⟩ : ∃ ok, ok = okB Y Z r2 r3 i := ⟨_, rfl⟩
      have C31 : Hid (∀ W, Calls Try.prog 31 #[.agg #[.int .i64 (X i), .int .i64 (Y i), .int .i64 (Z i)], .agg #[.bool r0, .int .i64 r1, .int .i64 r2, .int .i64 r3, .bool r4]] W fun e w' => e = .returned (.agg #[.int .i64 (X i), .int .i64 (if Y i < r2 then r2 else Y i), .int .i64 (if r3 < Z i then r3 else Z i)]) ∧ Below W.heap.size W w') := hid (fun W => with31 _ _ _ r0 r1 r2 r3 r4 W)
      have heq : ((X i == X i) && (((if Y i < r2 then r2 else Y i) == Y i) && ((if r3 < Z i then r3 else Z i) == Z i))) = ok := by
        rw [hok]
        unfold okB
        rw [Bool.eq_iff_iff]
        simp only [Bool.and_eq_true, beq_iff_eq, decide_eq_true_iff, true_and]
        constructor
        · rintro ⟨h1, h2⟩
          constructor
          · split at h1 <;> omega
          · split at h2 <;> omega
        · rintro ⟨h1, h2⟩
          exact ⟨by rw [if_neg (by omega)], by rw [if_neg (by omega)]⟩
      obtain ⟨mY, hmY⟩ : ∃ mY, mY = (if Y i < r2 then r2 else Y i) := ⟨_, rfl⟩
      obtain ⟨mZ, hmZ⟩ : ∃ mZ, mZ = (if r3 < Z i then r3 else Z i) := ⟨_, rfl⟩
      rw [← hmY, ← hmZ] at C31 heq
      have hq2 : ∀ W, (binOp .eql 61 (.agg #[.int .i64 (X i), .int .i64 mY, .int .i64 mZ]) (.agg #[.int .i64 (X i), .int .i64 (Y i), .int .i64 (Z i)])).run Try.prog W = .ok (.bool ok) W := fun W => by rw [hq61, heq]
      rw [← hok] at hF
      have HF := hF
      have iA : (i : Int) < (n : Int) := by omega
      have iB : (0 : Int) ≤ (i : Int) := by omega
      clear hok heq hmY hmZ hq61 a1 x0 x1 x2 y0 y1 y2 y3 y4 k0 k1 k2 hN hT hF
      go_wp2_with fail
      go_region_held3 (fun w' => w'.cell? ⟨A, 1, none⟩ = some (.slice (some ⟨B, 0, none⟩) n c) ∧ w'.cell? ⟨B, i * 3, none⟩ = some (.int .i64 (X i)) ∧ w'.cell? ⟨B, i * 3 + 1, none⟩ = some (.int .i64 (Y i)) ∧ w'.cell? ⟨B, i * 3 + 2, none⟩ = some (.int .i64 (Z i)) ∧ w'.cell? ⟨w.heap.size + 1, 0, none⟩ = some (.bool r0) ∧ w'.cell? ⟨w.heap.size + 1, 1, none⟩ = some (.int .i64 r1) ∧ w'.cell? ⟨w.heap.size + 1, 2, none⟩ = some (.int .i64 r2) ∧ w'.cell? ⟨w.heap.size + 1, 3, none⟩ = some (.int .i64 r3) ∧ w'.cell? ⟨w.heap.size + 1, 4, none⟩ = some (.bool r4) ∧ Below wr.heap.size wr w') (first | exact same9 H0.out rfl rfl rfl rfl | exact hSS) (first | (go_at_call 31; refine (C31.out _).mono ?_; rintro e w3 ⟨rfl, hb3⟩; have hSS := held9 (by assumption) hb3 (Below.size (bel9 (by assumption)))))
      all_goals
        have hb3 := bel9 hSS
        have NS := hid (HN.out.later hb3)
        have TS := hid (HT.out.later hb3)
        clear hSS H0 C31 HN HT hq2 hb3
        cases ok
        · have HG : Hid ((bF, sF) = cov s' (scan (gB z l bd) (okB Y Z r2 r3) fr i)) := hid (by have e := HF.out; simpa using e)
          clear HF
          go_wp2_with fail
          refine (NX.out w3 s' i TS.out NS.out (by omega) hhi (by omega)).mono ?_
          rintro e w4 ⟨rb, s4, rt4, rfl, hN4, hT4, hc4⟩
          have hlt4 : rb < i := by
            rcases hc4 with ⟨_, e, _⟩ | ⟨_, _, e⟩
            · omega
            · rcases e with ⟨_, e⟩ | ⟨_, e, _⟩
              · omega
              · rcases e with ⟨e, _⟩ | ⟨j, e, _, h, _⟩ <;> omega
          have S4 := hid (CRel.of (w1 := w1) (R := w.heap.size + 1) (tt := f1.toNat) (X := X) (r0 := r0) (r1 := r1) (r4 := r4) hhi TS.out (by omega) HG.out hN4 hT4 hc4)
          have HL4 := hid hlt4
          clear hN4 hT4 hc4 HG hlt4
          go_wp2_with fail
          go_roundw
          · exact S4.out
          · have := HL4.out
            show (rb + 1).toNat < ((i : Int) + 1).toNat
            omega
        · have e := HF.out
          clear HF
          rw [if_pos rfl] at e
          cases e
          go_wp2_with fail
          go_ret
          exact ⟨rfl, NS.out.a, NS.out.p, ⟨TS.out.os.trans HB1.out.os, TS.out.tape.trans HB1.out.tape, TS.out.output.trans HB1.out.output⟩, by have := TS.out.size; omega, fun k hk hkp => (TS.out.block k (by omega) hkp (by omega)).trans (HB1.out.block k hk)⟩
end Go.Proofs.Qxb6601371a
