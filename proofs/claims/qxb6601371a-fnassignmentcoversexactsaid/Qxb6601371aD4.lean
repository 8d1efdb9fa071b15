import Derived.Test.Qxb6601371aD3
namespace Go.Proofs.Qxb6601371a
open Go.RowKit
set_option linter.unusedVariables false

/-- The cells of choices. -/
def chF (f0 f1 f2 f3 f4 : Int) (b5 : Bool) (i : Nat) : Value := if i = 0 then .int .i64 f0 else if i = 1 then .int .i64 f1 else if i = 2 then .int .i64 f2 else if i = 3 then .int .i64 f3 else if i = 4 then .int .i64 f4 else .bool b5

theorem held5 {B : Nat} {w W W' : World} {p1 p2 p3 p4 p5 : Addr} {v1 v2 v3 v4 v5 : Value} (h : W.cell? p1 = some v1 ∧ W.cell? p2 = some v2 ∧ W.cell? p3 = some v3 ∧ W.cell? p4 = some v4 ∧ W.cell? p5 = some v5 ∧ Below B w W) (hb : Below W.heap.size W W') (hB : B ≤ W.heap.size) :
    W'.cell? p1 = some v1 ∧ W'.cell? p2 = some v2 ∧ W'.cell? p3 = some v3 ∧ W'.cell? p4 = some v4 ∧ W'.cell? p5 = some v5 ∧ Below B w W' :=
  ⟨cell_later hb h.1, cell_later hb h.2.1, cell_later hb h.2.2.1, cell_later hb h.2.2.2.1, cell_later hb h.2.2.2.2.1, h.2.2.2.2.2.trans (hb.mono hB)⟩
theorem bel5 {B : Nat} {w W : World} {p1 p2 p3 p4 p5 : Addr} {v1 v2 v3 v4 v5 : Value} (h : W.cell? p1 = some v1 ∧ W.cell? p2 = some v2 ∧ W.cell? p3 = some v3 ∧ W.cell? p4 = some v4 ∧ W.cell? p5 = some v5 ∧ Below B w W) : Below B w W := h.2.2.2.2.2
theorem same5 {B : Nat} {w W W' : World} {p1 p2 p3 p4 p5 : Addr} {v1 v2 v3 v4 v5 : Value} (h : W.cell? p1 = some v1 ∧ W.cell? p2 = some v2 ∧ W.cell? p3 = some v3 ∧ W.cell? p4 = some v4 ∧ W.cell? p5 = some v5 ∧ Below B w W) (e1 : W'.heap = W.heap) (e2 : W'.os = W.os) (e3 : W'.tape = W.tape) (e4 : W'.output = W.output) :
    W'.cell? p1 = some v1 ∧ W'.cell? p2 = some v2 ∧ W'.cell? p3 = some v3 ∧ W'.cell? p4 = some v4 ∧ W'.cell? p5 = some v5 ∧ Below B w W' := by
  have hc : ∀ a, W'.cell? a = W.cell? a := fun a => by simp only [World.cell?, e1]
  simp only [hc]
  exact ⟨h.1, h.2.1, h.2.2.1, h.2.2.2.1, h.2.2.2.2.1, ⟨e2.trans h.2.2.2.2.2.os, e3.trans h.2.2.2.2.2.tape, e4.trans h.2.2.2.2.2.output, by rw [e1]; exact h.2.2.2.2.2.size, fun k hk => by rw [e1]; exact h.2.2.2.2.2.block k hk⟩⟩

/-- Only the blocks P and C have turned, and new blocks. -/
structure TwoK (P C : Nat) (w w' : World) : Prop where
  os : w'.os = w.os
  tape : w'.tape = w.tape
  output : w'.output = w.output
  size : w.heap.size ≤ w'.heap.size
  block : ∀ k, k < w.heap.size → k ≠ P → k ≠ C → w'.heap[k]? = w.heap[k]?
theorem TwoK.refl (P C : Nat) (w : World) : TwoK P C w w := ⟨rfl, rfl, rfl, Nat.le_refl _, fun _ _ _ _ => rfl⟩
theorem TwoK.set {P C : Nat} {w W : World} {p : Addr} (h : TwoK P C w W) (hp : p.block = P ∨ p.block = C) (v : Value) : TwoK P C w (W.setCell p v) :=
  ⟨h.os, h.tape, h.output, by have := h.size; simp; omega, fun k a b c => (Below.heap_setCell W p v k (by rintro rfl; rcases hp with e | e; exact b e; exact c e)).trans (h.block k a b c)⟩
theorem TwoK.later {P C : Nat} {w W W' : World} (h : TwoK P C w W) (hb : Below W.heap.size W W') : TwoK P C w W' :=
  ⟨hb.os.trans h.os, hb.tape.trans h.tape, hb.output.trans h.output, Nat.le_trans h.size hb.size, fun k a b c => (hb.block k (by have := h.size; omega)).trans (h.block k a b c)⟩
theorem TwoK.trans {P C : Nat} {a b c : World} (h1 : TwoK P C a b) (h2 : TwoK P C b c) : TwoK P C a c :=
  ⟨h2.os.trans h1.os, h2.tape.trans h1.tape, h2.output.trans h1.output, Nat.le_trans h1.size h2.size, fun k x y z => (h2.block k (by have := h1.size; omega) y z).trans (h1.block k x y z)⟩

/-- The state that next works on. -/
structure NSt (w : World) (A P C : Nat) (vc vn : Value) (L s fr rt bd cl : Int) (mg : Bool) : Prop where
  a : Asg w A P vc vn L
  p : w.rowIs P 3 1 (fun _ => .int .i64 s)
  c : w.rowIs C 36 6 (chF fr rt fr bd cl mg)
  ne : A ≠ P ∧ A ≠ C ∧ P ≠ C
theorem NSt.later {w w' : World} {A P C : Nat} {vc vn : Value} {L s fr rt bd cl : Int} {mg : Bool} (h : NSt w A P C vc vn L s fr rt bd cl mg) (hb : Below w.heap.size w w') : NSt w' A P C vc vn L s fr rt bd cl mg :=
  ⟨h.a.kept (hb.block _ h.a.lt), h.p.of_block (hb.block _ h.p.lt), h.c.of_block (hb.block _ h.c.lt), h.ne⟩
theorem NSt.setS {w : World} {A P C : Nat} {vc vn : Value} {L s fr rt bd cl : Int} {mg : Bool} (h : NSt w A P C vc vn L s fr rt bd cl mg) (s' : Int) : NSt (w.setCell ⟨P, 0, none⟩ (.int .i64 s')) A P C vc vn L s' fr rt bd cl mg :=
  ⟨h.a.kept (Below.heap_setCell _ _ _ _ h.ne.1), ((h.p.set 0 _).congr fun i hi => (show (if i = 0 then Value.int .i64 s' else _) = _ from if_pos (by omega))), h.c.setOther (a := ⟨P, 0, none⟩) h.ne.2.2.symm _, h.ne⟩
theorem NSt.setR {w : World} {A P C : Nat} {vc vn : Value} {L s fr rt bd cl : Int} {mg : Bool} (h : NSt w A P C vc vn L s fr rt bd cl mg) (rt' : Int) : NSt (w.setCell ⟨C, 1, none⟩ (.int .i64 rt')) A P C vc vn L s fr rt' bd cl mg := by
  refine ⟨h.a.kept (Below.heap_setCell _ _ _ _ h.ne.2.1), h.p.setOther (a := ⟨C, 1, none⟩) h.ne.2.2 _, (h.c.set 1 _).congr fun i hi => ?_, h.ne⟩
  simp only [chF]
  by_cases e : i = 1
  · subst e; simp
  · rw [if_neg e]; simp [e]
theorem NSt.setI {w : World} {A P C : Nat} {vc vn : Value} {L s fr rt bd cl : Int} {mg : Bool} (h : NSt w A P C vc vn L s fr rt bd cl mg) : NSt (w.setCell ⟨C, 2, none⟩ (.int .i64 fr)) A P C vc vn L s fr rt bd cl mg := by
  refine ⟨h.a.kept (Below.heap_setCell _ _ _ _ h.ne.2.1), h.p.setOther (a := ⟨C, 2, none⟩) h.ne.2.2 _, (h.c.set 2 _).congr fun i hi => ?_, h.ne⟩
  simp only [chF]
  by_cases e : i = 2
  · subst e; simp
  · rw [if_neg e]

/-- What next finds. -/
def NextR (l : Nat) (z : Nat → Int) (fr rt bd r rt' : Int) : Prop := (rt ≤ fr ∧ r = -1) ∨ (fr < rt ∧ IsLast l z fr rt.toNat bd r ∧ (0 ≤ r → rt' = r))
def NextPost (w : World) (A P C : Nat) (vc vn : Value) (L s fr rt bd cl : Int) (mg : Bool) (l : Nat) (z : Nat → Int) (e : Ending) (w' : World) : Prop :=
  ∃ r s' rt', e = .returned (.int .i64 r) ∧ NSt w' A P C vc vn L s' fr rt' bd cl mg ∧ TwoK P C w w' ∧ ((s ≤ 0 ∧ r = -1 ∧ s' = -1) ∨ (0 < s ∧ s' = s - 1 ∧ NextR l z fr rt bd r rt'))

set_option maxRecDepth 100000 in
set_option maxHeartbeats 4000000 in
theorem next27 (w : World) (A P C B0 : Nat) (vc : Value) (na : Option Addr) (nn nc l : Nat) (z : Nat → Int) (L s fr rt bd cl : Int) (mg : Bool) (h : NSt w A P C vc (.slice na nn nc) L s fr rt bd cl mg) (hB : B0 ≤ P ∧ B0 ≤ C ∧ B0 ≤ w.heap.size) (hfr : 0 ≤ fr) (hs0 : -9223372036854775808 ≤ s) (hs1 : s ≤ 9223372036854775807)
    (hL : fr < rt → ∃ (p b o : Nat), L = (l : Int) ∧ l = 2 ^ p ∧ l ≤ 65536 ∧ nn = 2 * l ∧ Heap l z ∧ na = some ⟨b, o, none⟩ ∧ rt ≤ l ∧ ∀ W, Below B0 w W → Arr W (some ⟨b, o, none⟩) nn fun i => .int .i64 (z i)) :
    Calls Try.prog 27 #[.pointer (some ⟨A, 0, none⟩), .pointer (some ⟨C, 0, none⟩)] w (NextPost w A P C vc (.slice na nn nc) L s fr rt bd cl mg l z) := by
  have c15 := h.a.c15
  have cp : w.cell? ⟨P, 0, none⟩ = some (.int .i64 s) := h.p.cell (i := 0) (by omega)
  have fp := h.p.frozen 0
  have HN := hid h
  have HL := hid hL
  clear h hL
  by_cases hs : s ≤ 0
  · have NS1 := hid (HN.out.setS (-1))
    have TW1 := hid ((TwoK.refl P C w).set (p := ⟨P, 0, none⟩) (.inl rfl) (.int .i64 (-1)))
    go_enter Try.func27, Try.ntmps27
    go_wp2
    go_ret
    exact ⟨-1, -1, rt, rfl, NS1.out, TW1.out, .inl ⟨hs, rfl, rfl⟩⟩
  · have NS1 := hid (HN.out.setS (s - 1))
    have TW1 := hid ((TwoK.refl P C w).set (p := ⟨P, 0, none⟩) (.inl rfl) (.int .i64 (s - 1)))
    have BW1 := hid ((Below.refl B0 w).setCell (p := ⟨P, 0, none⟩) hB.1 (.int .i64 (s - 1)))
    go_enter Try.func27, Try.ntmps27
    go_upto_region 5 with fail
    obtain ⟨W1, hW1⟩ : ∃ W1, W1 = w.setCell ⟨P, 0, none⟩ (.int .i64 (s - 1)) := ⟨_, rfl⟩
    rw [← hW1] at NS1 TW1 BW1 ⊢
    clear hW1 c15 cp fp
    have y0 : W1.cell? ⟨C, 0, none⟩ = some (.int .i64 fr) := NS1.out.c.cell (i := 0) (by omega)
    have y1 : W1.cell? ⟨C, 1, none⟩ = some (.int .i64 rt) := NS1.out.c.cell (i := 1) (by omega)
    by_cases hlt : fr < rt
    · obtain ⟨p, b, o, rfl, hl, hl2, hnn, hh, rfl, hrl, hArr⟩ := HL.out hlt
      obtain ⟨tt, rfl⟩ : ∃ tt : Nat, rt = (tt : Int) := ⟨rt.toNat, by omega⟩
      have d1 : decide (fr < (tt : Int)) = true := by simp [hlt]
      go_quiet (fail)
      have y3 : W1.cell? ⟨C, 3, none⟩ = some (.int .i64 bd) := NS1.out.c.cell (i := 3) (by omega)
      have x9 := NS1.out.a.c9
      have x10 := NS1.out.a.c10
      obtain ⟨W2, hW2⟩ : ∃ W2, W2 = W1.drewN nq := ⟨_, rfl⟩
      have NS2 := hid (show NSt W2 A P C vc _ l (s - 1) fr tt bd cl mg by rw [hW2]; exact NS1.out.later (belowN (Below.refl _ _) _))
      have TW2 := hid (show TwoK P C w W2 by rw [hW2]; exact TW1.out.later (belowN (Below.refl _ _) _))
      have BW2 := hid (show Below B0 w W2 by rw [hW2]; exact belowN BW1.out nq)
      have H0 := hid (show W2.cell? ⟨A, 9, none⟩ = some (.int .i64 (l : Int)) ∧ W2.cell? ⟨A, 10, none⟩ = some (.slice (some ⟨b, o, none⟩) nn nc) ∧ W2.cell? ⟨C, 0, none⟩ = some (.int .i64 fr) ∧ W2.cell? ⟨C, 1, none⟩ = some (.int .i64 (tt : Int)) ∧ W2.cell? ⟨C, 3, none⟩ = some (.int .i64 bd) ∧ Below W2.heap.size W2 W2 by rw [hW2]; exact ⟨x9, x10, y0, y1, y3, Below.refl _ _⟩)
      have C26 := hid (fun (W : World) (hW : Below B0 w W) => last26 l b o nn nc z fr tt bd W (hArr W hW) p hl hl2 hnn hh (by omega) (by omega) hlt)
      have hB2 := hB.2.2
      have hBs := hid (BW2.out.size)
      clear hArr hl hnn hh HL
      go_wp2_with fail
      rw [← hW2]
      clear hW2 y0 y1 y3 x9 x10 NS1 TW1 BW1
      go_region_held3 (fun w' => w'.cell? ⟨A, 9, none⟩ = some (.int .i64 (l : Int)) ∧ w'.cell? ⟨A, 10, none⟩ = some (.slice (some ⟨b, o, none⟩) nn nc) ∧ w'.cell? ⟨C, 0, none⟩ = some (.int .i64 fr) ∧ w'.cell? ⟨C, 1, none⟩ = some (.int .i64 (tt : Int)) ∧ w'.cell? ⟨C, 3, none⟩ = some (.int .i64 bd) ∧ Below W2.heap.size W2 w') (first | exact same5 H0.out rfl rfl rfl rfl | exact hSS) (first | (go_at_call 26; refine (C26.out _ (BW2.out.trans ((bel5 (by assumption)).mono (Nat.le_trans hB2 hBs.out)))).mono ?_; rintro e w3 ⟨r, rfl, hr, hb3⟩; have hSS := held5 (by assumption) hb3 (Below.size (bel5 (by assumption)))))
      all_goals
        have NS3 := NS2.out.later hSS.2.2.2.2.2
        have TW3 := hid (TW2.out.later hSS.2.2.2.2.2)
        have q0 : w3.cell? ⟨C, 0, none⟩ = some (.int .i64 fr) := NS3.c.cell (i := 0) (by omega)
        have q1 : w3.cell? ⟨C, 1, none⟩ = some (.int .i64 (tt : Int)) := NS3.c.cell (i := 1) (by omega)
        have f1 := NS3.c.frozen 1
        have HR := hid hr
        have NS3' := hid NS3
        clear hr hSS NS3 H0 C26
        by_cases hr0 : 0 ≤ r
        · have NF := hid (NS3'.out.setR r)
          have TF := hid (TW3.out.set (p := ⟨C, 1, none⟩) (.inr rfl) (.int .i64 r))
          have NR := hid (show NextR l z fr tt bd r r from .inr ⟨hlt, HR.out, fun _ => rfl⟩)
          go_wp2_with fail
          go_ret
          exact ⟨r, _, _, rfl, NF.out, TF.out, .inr ⟨by omega, rfl, NR.out⟩⟩
        · have hr1 : r = -1 := by
            rcases HR.out with ⟨e, _⟩ | ⟨i, e, _⟩
            · exact e
            · omega
          subst hr1
          have NR := hid (show NextR l z fr tt bd (-1) fr from .inr ⟨hlt, HR.out, fun h => absurd h (by omega)⟩)
          have NF := hid (NS3'.out.setR fr)
          have TF := hid (TW3.out.set (p := ⟨C, 1, none⟩) (.inr rfl) (.int .i64 fr))
          clear NS3' TW3 HR
          go_upto_region 11 with fail
          obtain ⟨W4, hW4⟩ : ∃ W4, W4 = w3.setCell ⟨C, 1, none⟩ (.int .i64 fr) := ⟨_, rfl⟩
          rw [← hW4] at NF TF ⊢
          have NS4 := NF
          have TW4 := TF
          clear hW4 q0 q1 f1 NF TF
          -- the idle tree: nothing
          have t11 := NS4.out.a.c11
          have t12 := NS4.out.a.c12
          have u0 : W4.cell? ⟨C, 0, none⟩ = some (.int .i64 fr) := NS4.out.c.cell (i := 0) (by omega)
          have u2 : W4.cell? ⟨C, 2, none⟩ = some (.int .i64 fr) := NS4.out.c.cell (i := 2) (by omega)
          have C26 := hid (fun (W : World) => last26_none 0 none 0 0 fr fr 0 W (Int.le_refl _))
          have H0 := hid (show W4.cell? ⟨A, 11, none⟩ = some (.int .i64 0) ∧ W4.cell? ⟨A, 12, none⟩ = some (.slice none 0 0) ∧ W4.cell? ⟨C, 0, none⟩ = some (.int .i64 fr) ∧ W4.cell? ⟨C, 2, none⟩ = some (.int .i64 fr) ∧ W4.cell? ⟨C, 2, none⟩ = some (.int .i64 fr) ∧ Below W4.heap.size W4 W4 from ⟨t11, t12, u0, u2, u2, Below.refl _ _⟩)
          clear t11 t12 u0 u2
          go_wp2_with fail
          go_region_held3 (fun w' => w'.cell? ⟨A, 11, none⟩ = some (.int .i64 0) ∧ w'.cell? ⟨A, 12, none⟩ = some (.slice none 0 0) ∧ w'.cell? ⟨C, 0, none⟩ = some (.int .i64 fr) ∧ w'.cell? ⟨C, 2, none⟩ = some (.int .i64 fr) ∧ w'.cell? ⟨C, 2, none⟩ = some (.int .i64 fr) ∧ Below W4.heap.size W4 w') (first | exact same5 H0.out rfl rfl rfl rfl | exact hSS) (first | (go_at_call 26; refine (C26.out _).mono ?_; rintro e w5 ⟨rfl, hb5⟩; have hSS := held5 (by assumption) hb5 (Below.size (bel5 (by assumption)))))
          all_goals
            have NS5 := NS4.out.later hSS.2.2.2.2.2
            have v0 : w5.cell? ⟨C, 0, none⟩ = some (.int .i64 fr) := NS5.c.cell (i := 0) (by omega)
            have v2 : w5.cell? ⟨C, 2, none⟩ = some (.int .i64 fr) := NS5.c.cell (i := 2) (by omega)
            have f2 := NS5.c.frozen 2
            have NF := hid NS5.setI
            have TF := hid ((TW4.out.later hSS.2.2.2.2.2).set (p := ⟨C, 2, none⟩) (.inr rfl) (.int .i64 fr))
            have hmx : ¬ (fr < -1) := by omega
            have d0 : decide ((0 : Int) ≤ -1) = false := by decide
            clear NS5 hSS
            go_wp2_with fail
            go_quiet (fail)
            go_wp2_with fail
            go_ret
            exact ⟨-1, _, _, rfl, NF.out.later (belowN (Below.refl _ _) _), TF.out.later (belowN (Below.refl _ _) _), .inr ⟨by omega, rfl, NR.out⟩⟩
    · have d1 : decide (fr < rt) = false := by simp; omega
      have NR := hid (show NextR l z fr rt bd (-1) rt from .inl ⟨by omega, rfl⟩)
      go_quiet (fail)
      have NS4 := hid (NS1.out.later (belowN (Below.refl _ _) nq))
      have TW4 := hid (TW1.out.later (belowN (Below.refl _ _) nq))
      go_upto_region 11 with fail
      obtain ⟨W4, hW4⟩ : ∃ W4, W4 = W1.drewN nq := ⟨_, rfl⟩
      rw [← hW4] at NS4 TW4 ⊢
      clear hW4 y0 y1 NS1 TW1 BW1 HL
      -- the idle tree: nothing
      have t11 := NS4.out.a.c11
      have t12 := NS4.out.a.c12
      have u0 : W4.cell? ⟨C, 0, none⟩ = some (.int .i64 fr) := NS4.out.c.cell (i := 0) (by omega)
      have u2 : W4.cell? ⟨C, 2, none⟩ = some (.int .i64 fr) := NS4.out.c.cell (i := 2) (by omega)
      have C26 := hid (fun (W : World) => last26_none 0 none 0 0 fr fr 0 W (Int.le_refl _))
      have H0 := hid (show W4.cell? ⟨A, 11, none⟩ = some (.int .i64 0) ∧ W4.cell? ⟨A, 12, none⟩ = some (.slice none 0 0) ∧ W4.cell? ⟨C, 0, none⟩ = some (.int .i64 fr) ∧ W4.cell? ⟨C, 2, none⟩ = some (.int .i64 fr) ∧ W4.cell? ⟨C, 2, none⟩ = some (.int .i64 fr) ∧ Below W4.heap.size W4 W4 from ⟨t11, t12, u0, u2, u2, Below.refl _ _⟩)
      clear t11 t12 u0 u2
      go_wp2_with fail
      go_region_held3 (fun w' => w'.cell? ⟨A, 11, none⟩ = some (.int .i64 0) ∧ w'.cell? ⟨A, 12, none⟩ = some (.slice none 0 0) ∧ w'.cell? ⟨C, 0, none⟩ = some (.int .i64 fr) ∧ w'.cell? ⟨C, 2, none⟩ = some (.int .i64 fr) ∧ w'.cell? ⟨C, 2, none⟩ = some (.int .i64 fr) ∧ Below W4.heap.size W4 w') (first | exact same5 H0.out rfl rfl rfl rfl | exact hSS) (first | (go_at_call 26; refine (C26.out _).mono ?_; rintro e w5 ⟨rfl, hb5⟩; have hSS := held5 (by assumption) hb5 (Below.size (bel5 (by assumption)))))
      all_goals
        have NS5 := NS4.out.later hSS.2.2.2.2.2
        have v0 : w5.cell? ⟨C, 0, none⟩ = some (.int .i64 fr) := NS5.c.cell (i := 0) (by omega)
        have v2 : w5.cell? ⟨C, 2, none⟩ = some (.int .i64 fr) := NS5.c.cell (i := 2) (by omega)
        have f2 := NS5.c.frozen 2
        have NF := hid NS5.setI
        have TF := hid ((TW4.out.later hSS.2.2.2.2.2).set (p := ⟨C, 2, none⟩) (.inr rfl) (.int .i64 fr))
        have hmx : ¬ (fr < -1) := by omega
        have d0 : decide ((0 : Int) ≤ -1) = false := by decide
        clear NS5 hSS
        go_wp2_with fail
        go_quiet (fail)
        go_wp2_with fail
        go_ret
        exact ⟨-1, _, _, rfl, NF.out.later (belowN (Below.refl _ _) _), TF.out.later (belowN (Below.refl _ _) _), .inr ⟨by omega, rfl, NR.out⟩⟩
end Go.Proofs.Qxb6601371a
