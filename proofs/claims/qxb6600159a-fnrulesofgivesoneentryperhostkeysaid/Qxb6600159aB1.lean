import Derived.Test.Qxb6600159aA4
namespace Go.Proofs.Qxb6600159a
open Go.RowKit Go.Maps
set_option linter.unusedVariables false

set_option maxRecDepth 100000 in
set_option maxHeartbeats 1000000 in
theorem law7 (a : Option Addr) (n c : Nat) (S : Nat → ByteArray) (w : World) (h : Arr w a n fun i => .string (S i)) (hs : ∀ i, (S i).size ≤ maxLen) :
    Calls Try.prog 7 #[.slice a n c] w (LawPost w) := by
  have hs' : ∀ i, (S i).size ≤ 9223372036854775807 := fun i => by have := hs i; unfold maxLen at this; exact this
  have HA := hid h
  have HS := hid hs
  have hmax := h.1
  clear h hs
  have C35 := hid (zz35 a n c S w HA.out hs')
  have C22 := hid (bytes22 a n c S w HA.out hs')
  have HS' := hid hs'
  clear hs'
  go_enter Try.func7, Try.ntmps7
  go_wp2_with fail
  refine C35.out.mono ?_
  rintro e w1 ⟨b, rfl, hb, hw⟩
  obtain rfl := hw.symm
  cases b
  · clear hb
    go_wp2
    go_ret
    exact ⟨rfl, Below.refl _ _⟩
  clear hb
  go_wp2_with fail
  refine C22.out.mono ?_
  rintro e w1 ⟨r, rfl, hw2⟩
  obtain rfl := hw2.symm
  clear C35 C22
  by_cases hr : 1048576 < r
  · go_wp2
    go_ret
    exact ⟨rfl, Below.refl _ _⟩
  by_cases hn : 4096 < n
  · go_wp2
    go_ret
    exact ⟨rfl, Below.refl _ _⟩
  go_wp2_with fail
  refine (clone26 a n c S w HA.out (by omega)).mono ?_
  rintro e w1 ⟨a1, c1, rfl, hA1, haf, hb1⟩
  have A1 := hid hA1
  have B1 := hid hb1
  clear hA1 hb1 haf HA
  go_wp2_with fail
  refine (new36 w1).mono ?_
  rintro e w2 ⟨X, M1, M2, rfl, hI, hbx, hX, hM1, hM2, hb2⟩
  have L0 := hid (law_start (n := n) (S := S) hI hbx hb2)
  have hsz := hb2.size
  have hGX : w2.heap.size ≠ X ∧ w2.heap.size ≠ M1 ∧ w2.heap.size ≠ M2 := by
    have h1 := hI.lt
    have h2 := hI.m1.lt
    have h3 := hI.m2.lt
    omega
  clear hI hb2 hbx
  have hmk := run_make_row' (P := Try.prog) 58 49 (.pointer none) _ Try.underlying58 Try.info49 rfl .i64 .i64 n (by omega) (by omega)
  go_wp2_with fail
  clear hmk
  go_loopw [5] (fun i wr => L1 w1 X M1 M2 w2.heap.size n S i wr) (fun i _ => n - (intOf i).toNat)
  case atStart => exact L0.out
  case round =>
    obtain ⟨k, g, P, hk, rfl, hI, hrow, hP, hbx, hbel⟩ := hrel
    have HX := hid hbx
    clear hbx
    by_cases hlt : k < n
    · obtain ⟨b, off, rfl, hc⟩ := (A1.out.later hbel).at hlt
      have hli : (k : Int) < (n : Int) := by omega
      have C37 := hid (zz37 wr X M1 M2 k g hI (by omega) (S k) (HS.out k))
      have HR := hid hrow
      have HB := hid hbel
      clear hrow hbel hI
      go_wp2_with fail
      refine C37.out.mono ?_
      rintro e w3 ⟨p, g', rfl, hI3, hK3, hp3, hm3, hx3⟩
      obtain ⟨r1, r2, r3⟩ := L1_next hlt hGX ⟨hM1, hM2, hsz⟩ HR.out hP.out HB.out hI3 hK3 hp3 hm3 (hx3 HX.out)
      have t1 := r1.cell hlt
      have t2 := r1.frozen k
      have t3 := r2.cell hlt
      have R3 := hid r3
      simp only [Nat.lt_irrefl, if_false] at t1
      simp only [Nat.lt_succ_self, if_true, pSet] at t3
      clear r1 r2 r3 hm3 hI3 hK3 hp3 C37 hx3
      go_wp2_with fail
      go_roundw
      case rel => exact R3.out
      case measure => simp [intOf]; omega
    · obtain rfl : k = n := by omega
      rename World => W
      have HI := hid hI
      have HR := hid hrow
      have HB := hid (B1.out.trans (hbel.mono B1.out.size))
      have AW := hid (A1.out.later hbel)
      clear hI hrow hbel A1 B1 L0
      go_wp2_with fail
      go_loopw [6] (fun i wr => ∃ m : Nat, m ≤ k ∧ i = .int .i64 ((m : Int) - 1) ∧ ∃ q, wr = W.drewN q) (fun i _ => (intOf i + 1).toNat)
      case atStart => exact ⟨k, Nat.le_refl _, by go_num, 0, rfl⟩
      case round =>
        obtain ⟨m, hm, hi, q, rfl⟩ := hrel
        cases m with
        | zero =>
          have em : ((0 : Nat) : Int) - 1 = -1 := by omega
          rw [em] at hi
          subst hi
          go_wp2_with fail
          go_loopw [7, 8] (fun i _ wr => ∃ m : Nat, m ≤ k ∧ i = .int .i64 m ∧ ∃ q, wr = W.drewN q) (fun i _ _ => k - (intOf i).toNat)
          case atStart => exact ⟨0, Nat.zero_le _, rfl, q, rfl⟩
          case round =>
            obtain ⟨m, hm, rfl, q2, rfl⟩ := hrel
            by_cases hlt : m < k
            · go_wp2_with fail
              go_loopw [8] (fun i wr => ∃ l : Nat, l ≤ m ∧ i = .int .i64 l ∧ ∃ q, wr = W.drewN q) (fun i _ => m - (intOf i).toNat)
              case atStart => exact ⟨0, Nat.zero_le _, rfl, q2, rfl⟩
              case round =>
                obtain ⟨l, hl, rfl, q3, rfl⟩ := hrel
                by_cases hll : l < m
                · obtain ⟨b, off, rfl, hc⟩ := AW.out.at (k := m) (by omega)
                  have hc2 := AW.out.cell (k := l) (by omega)
                  have t1 := HR.out.cell (i := m) (by omega)
                  have t2 := HR.out.cell (i := l) (by omega)
                  have p1 := hP.out m (by omega)
                  have p2 := hP.out l (by omega)
                  rw [if_pos (by omega)] at t1 t2
                  obtain ⟨bb, hbb⟩ : ∃ bb : Bool, bb = decide (P m = P l) := ⟨_, rfl⟩
                  have hq : ∀ n, (binOp .eql 49 (.pointer (some (P m))) (.pointer (some (P l)))).run Try.prog (W.drewN n) = .ok (.bool bb) (W.drewN n) := fun n => by
                    obtain ⟨c1, y1, e1⟩ := ptr_box HX.out p1
                    obtain ⟨c2, y2, e2⟩ := ptr_box HX.out p2
                    rw [hbb]
                    exact eql49 (W.drewN n) (P m) (P l) e1 e2
                  have C : Hid (∀ W', Calls Try.prog 38 #[.string (S m), .string (S l)] W' fun e w' => e = .returned (.bool bb) ∧ ∃ n, w' = W'.drewN n) := hid (fun W' => (same38 (S m) (S l) W' (HS'.out m) (HS'.out l)).mono fun e w' h => by
                    obtain ⟨b', rfl, hb', hw'⟩ := h
                    refine ⟨?_, hw'⟩
                    have : b' = bb := by
                      rw [Bool.eq_iff_iff, hb', hbb, decide_eq_true_iff]
                      constructor
                      · intro e
                        rw [e] at p1
                        exact Option.some.inj (p1.symm.trans p2)
                      · intro e
                        rw [e] at p1
                        exact ptr_inj HI.out p1 p2
                    rw [this])
                  have i1 : (m : Int) < (k : Int) := by omega
                  have i2 : (l : Int) < (k : Int) := by omega
                  have i3 : (l : Int) < (m : Int) := by omega
                  have hnb := neqBool
                  clear p1 p2 hbb
                  go_wp2_with fail
                  go_quiet (first | (go_at_call 38; exact (C.out _).mono fun e w' h => (by obtain ⟨rfl, nn, rfl⟩ := h; exact ⟨rfl, _, by rw [World.drewN_drewN, Nat.add_assoc]⟩)))
                  clear hq hnb
                  go_wp2_with fail
                  go_roundw
                  case rel => exact ⟨l + 1, by omega, by go_num, _, rfl⟩
                  case measure => simp [intOf]; omega
                · go_wp2_with fail
                  go_roundw
                  case rel => exact ⟨m + 1, by omega, by go_num, _, rfl⟩
                  case measure => simp [intOf]; omega
            · go_wp2_with fail
              go_ret
              exact ⟨rfl, belowN HB.out _⟩
        | succ m =>
          have em : ((m + 1 : Nat) : Int) - 1 = (m : Int) := by omega
          rw [em] at hi
          subst hi
          obtain ⟨b, off, rfl, hc⟩ := AW.out.at (k := m) (by omega)
          have hli : (m : Int) < (k : Int) := by omega
          have hl0 : (0 : Int) ≤ (m : Int) := by omega
          have t1 := HR.out.cell (i := m) (by omega)
          have hpm := hP.out m (by omega)
          have C : Hid (∀ (W' : World) (hW : Idx W' X M1 M2 k g), Calls Try.prog 37 #[.pointer (some ⟨X, 0, none⟩), .string (S m)] W' fun e w' => e = .returned (.pointer (some (P m))) ∧ w' = W') := hid (fun W' hW => zz37_hit W' X M1 M2 k g hW (S m) (HS.out m) (P m) hpm)
          rw [if_pos (by omega)] at t1
          clear hpm
          have hq := neq49
          go_wp2_with fail
          go_quiet (first | (go_at_call 37; exact (C.out _ (by exact HI.out.kept (Nat.le_refl _) rfl rfl rfl)).mono fun e w' h => ⟨h.1, _, h.2⟩))
          clear hq
          go_wp2_with fail
          go_roundw
          case rel => exact ⟨m, by omega, by go_num, _, rfl⟩
          case measure => simp [intOf]
end Go.Proofs.Qxb6600159a
