import Derived.Test.Qxb6601371aA1
namespace Go.Proofs.Qxb6601371a
open Go.RowKit
set_option linter.unusedVariables false

/-- What 'last' returns. -/
def LastPost (w : World) (l : Nat) (z : Nat → Int) (fr : Int) (tt : Nat) (bd : Int) (e : Ending) (w' : World) : Prop :=
  ∃ r, e = .returned (.int .i64 r) ∧ IsLast l z fr tt bd r ∧ Below w.heap.size w w'

/-- Where the search ends: at the last leaf before 'tt' that is no less than the bound. -/
def AtLeaf (l : Nat) (z : Nat → Int) (tt : Nat) (bd : Int) (k : Nat) : Prop := l ≤ k ∧ k < l + tt ∧ bd ≤ z k ∧ ∀ x, k < x → x < l + tt → z x < bd

theorem last_yes {l : Nat} {z : Nat → Int} {fr : Int} {tt : Nat} {bd : Int} {k : Nat} (h : AtLeaf l z tt bd k) (hf : fr ≤ (k : Int) - l) : IsLast l z fr tt bd ((k : Int) - l) := by
  obtain ⟨h1, h2, h3, h4⟩ := h
  refine .inr ⟨k - l, by omega, by omega, by omega, ?_, fun t h5 h6 => h4 (l + t) (by omega) (by omega)⟩
  rw [show l + (k - l) = k by omega]; exact h3
theorem last_no {l : Nat} {z : Nat → Int} {fr : Int} {tt : Nat} {bd : Int} {k : Nat} (h : AtLeaf l z tt bd k) (hf : ¬ fr ≤ (k : Int) - l) : IsLast l z fr tt bd (-1) := by
  obtain ⟨h1, h2, h3, h4⟩ := h
  exact .inl ⟨rfl, fun i h5 h6 => h4 (l + i) (by omega) (by omega)⟩

set_option maxRecDepth 100000 in
set_option maxHeartbeats 1000000 in
theorem last26 (l : Nat) (b o n c : Nat) (z : Nat → Int) (fr : Int) (tt : Nat) (bd : Int) (w : World) (hz : Arr w (some ⟨b, o, none⟩) n fun i => .int .i64 (z i))
    (p : Nat) (hl : l = 2 ^ p) (hl2 : l ≤ 65536) (hn : n = 2 * l) (hh : Heap l z) (h1 : 1 ≤ tt) (h2 : tt ≤ l) (hft : fr < tt) :
    Calls Try.prog 26 #[.agg #[.int .i64 (l : Int), .slice (some ⟨b, o, none⟩) n c], .int .i64 fr, .int .i64 (tt : Int), .int .i64 bd] w (LastPost w l z fr tt bd) := by
  have HL := hid hl
  have HN := hid hn
  have HH := hid hh
  have hn1 : n ≤ 2 * l := by omega
  have hn2 : 2 * l ≤ n := by omega
  have hl1 : 1 ≤ l := by omega
  clear hl hn hh
  have hc := fun k (hk : k < n) o' => cell_alloc (hz.cell hk) o'
  have ck0 := hc (l + tt - 1) (by omega)
  have HC := hid hc
  clear hc
  go_enter Try.func26, Try.ntmps26
  go_upto_if 25 with fail
  have tb : ∀ o', Below w.heap.size w (w.alloc o') := fun o' => (Below.refl _ _).alloc (Nat.le_refl _) o'
  have t0 : (w.alloc (.cells #[.int .i64 (l : Int), .slice (some ⟨b, o, none⟩) n c] 54)).cell? ⟨w.heap.size, 0, none⟩ = some (.int .i64 (l : Int)) := by simp
  have t1 : (w.alloc (.cells #[.int .i64 (l : Int), .slice (some ⟨b, o, none⟩) n c] 54)).cell? ⟨w.heap.size, 1, none⟩ = some (.slice (some ⟨b, o, none⟩) n c) := by simp
  have tB := tb (.cells #[.int .i64 (l : Int), .slice (some ⟨b, o, none⟩) n c] 54)
  have hc1 := fun k (hk : k < n) => HC.out k hk (.cells #[.int .i64 (l : Int), .slice (some ⟨b, o, none⟩) n c] 54)
  generalize w.alloc (.cells #[.int .i64 (l : Int), .slice (some ⟨b, o, none⟩) n c] 54) = w1 at t0 t1 tB hc1 ⊢
  have HC1 := hid hc1
  clear tb hc1 HC ck0
  go_cut [9] from 11 (fun v wr => ∃ k : Nat, v = .int .i64 k ∧ AtLeaf l z tt bd k ∧ wr = w1)
  case first =>
    by_cases hlt : z (l + tt - 1) < bd
    · go_wp2_with fail
      have hst := climb_start (z := z) (bd := bd) (p := p) h1 (by rw [← HL.out]; exact h2) (by rw [← HL.out]; exact hlt)
      rw [← HL.out] at hst
      go_loop [9] (fun v => ∃ k : Nat, v = .int .i64 k ∧ Climb l p z tt bd k) (fun v => (intOf v).toNat)
      case atStart => exact ⟨l + tt - 1, by congr 1; omega, hst⟩
      case round =>
        obtain ⟨k, rfl, hcl⟩ := hrel
        clear hst
        have hcb : 1 ≤ k ∧ k < 2 * l := by
          have := hcl
          rw [HL.out] at this ⊢
          exact climb_bounds this
        have hk1 := hcb.1
        have hk2 := hcb.2
        have HCL := hid hcl
        clear hcb hcl
        by_cases e1 : k = 1
        · subst e1
          have hno := HCL.out
          rw [HL.out] at hno
          have hno := climb_one hno
          go_wp2_with fail
          go_ret
          refine ⟨-1, rfl, .inl ⟨rfl, fun i hi1 hi2 => ?_⟩, tB⟩
          have := hno (l + i) (by rw [← HL.out]; omega) (by rw [← HL.out]; omega)
          exact this
        · have hb1 : ((k : Int) != 1) = true := by simp; omega
          by_cases ev : k % 2 = 0
          · have hb2 : ((k : Int) % 2 == 0) = true := by simp; omega
            have hs : Climb l p z tt bd (k / 2) := by
              have := HCL.out
              rw [HL.out] at this ⊢
              exact climb_step (by rw [← HL.out]; exact HH.out) this e1 (.inl ev)
            have HS := hid hs
            clear hs e1 ev
            go_wp2_with fail
            go_round
            case rel => exact ⟨k / 2, by go_num, HS.out⟩
            case measure => simp [intOf]; omega
          · have hb2 : ((k : Int) % 2 == 0) = false := by simp; omega
            have ck := HC1.out (k - 1) (by omega)
            by_cases hz1 : z (k - 1) < bd
            · have hs : Climb l p z tt bd (k / 2) := by
                have := HCL.out
                rw [HL.out] at this ⊢
                exact climb_step (by rw [← HL.out]; exact HH.out) this e1 (.inr hz1)
              have HS := hid hs
              clear hs e1 ev
              go_wp2_with fail
              go_round
              case rel => exact ⟨k / 2, by go_num, HS.out⟩
              case measure => simp [intOf]; omega
            · have hs : Down l p z tt bd (k - 1) := by
                have := HCL.out
                rw [HL.out] at this ⊢
                exact down_start this e1 (by omega) (by omega)
              have HS := hid hs
              clear hs e1 ev
              go_wp2_with fail
              go_loop [9] (fun v => ∃ m : Nat, v = .int .i64 m ∧ Down l p z tt bd m) (fun v => 2 * l - (intOf v).toNat)
              case atStart => exact ⟨k - 1, by congr 1; omega, HS.out⟩
              case round =>
                obtain ⟨m, rfl, hdn⟩ := hrel
                clear ck hz1 hb1 hb2 HS HCL hk1 hk2
                have hdb : 1 ≤ m ∧ m < 2 * l := by
                  have := hdn
                  rw [HL.out] at this ⊢
                  exact down_bounds this
                have hm1 := hdb.1
                have hm2 := hdb.2
                have HD := hid hdn
                clear hdb hdn
                by_cases hml : m < l
                · have hstep := down_step (p := p) (by rw [← HL.out]; exact HH.out) (by have := HD.out; rw [HL.out] at this; exact this) (by rw [← HL.out]; exact hml)
                  rw [← HL.out] at hstep
                  have HST := hid hstep
                  have cm := HC1.out (2 * m + 1) (by omega)
                  clear hstep
                  by_cases hz2 : bd ≤ z (2 * m + 1)
                  · go_wp2_with fail
                    go_round
                    case rel => exact ⟨2 * m + 1, by go_num, HST.out.1 hz2⟩
                    case measure => simp [intOf]; omega
                  · go_wp2_with fail
                    go_round
                    case rel => exact ⟨2 * m, by go_num, HST.out.2 (by omega)⟩
                    case measure => simp [intOf]; omega
                · have hal : AtLeaf l z tt bd m := by
                    have := HD.out
                    rw [HL.out] at this
                    have h3 := down_end this (by rw [← HL.out]; omega)
                    rw [← HL.out] at h3
                    exact ⟨by omega, h3.2.1, h3.1, h3.2.2⟩
                  have HA := hid hal
                  clear hal
                  go_wp2_with fail
                  go_meet
                  case rel => exact ⟨m, rfl, HA.out, rfl⟩
    · have hal : AtLeaf l z tt bd (l + tt - 1) := ⟨by omega, by omega, by omega, fun x h3 h4 => by omega⟩
      have HA := hid hal
      clear hal
      go_wp2_with fail
      go_meet
      case rel => exact ⟨l + tt - 1, by congr 1; omega, HA.out, rfl⟩
  case rest =>
    obtain ⟨k, rfl, hal, rfl⟩ := hcut
    have HA := hid hal
    have hk1 := hal.1
    have hk2 := hal.2.1
    clear hal
    by_cases hf : fr ≤ (k : Int) - l
    · go_wp2_with fail
      go_ret
      exact ⟨_, rfl, last_yes HA.out hf, tB⟩
    · go_wp2_with fail
      go_ret
      exact ⟨-1, rfl, last_no HA.out (by omega), tB⟩

set_option maxRecDepth 100000 in
set_option maxHeartbeats 1000000 in
theorem last26_none (L : Int) (a : Option Addr) (n c : Nat) (fr t bd : Int) (w : World) (hft : t ≤ fr) :
    Calls Try.prog 26 #[.agg #[.int .i64 L, .slice a n c], .int .i64 fr, .int .i64 t, .int .i64 bd] w fun e w' => e = .returned (.int .i64 (-1)) ∧ Below w.heap.size w w' := by
  go_enter Try.func26, Try.ntmps26
  go_wp2
  go_ret
  exact ⟨rfl, (Below.refl _ _).alloc (Nat.le_refl _) _⟩

set_option maxRecDepth 100000 in
set_option maxHeartbeats 1000000 in
theorem zzlast11 (l : Nat) (b o n c : Nat) (z : Nat → Int) (fr : Int) (tt : Nat) (bd : Int) (w : World) (hz : Arr w (some ⟨b, o, none⟩) n fun i => .int .i64 (z i))
    (p : Nat) (hl : l = 2 ^ p) (hl2 : l ≤ 65536) (hn : n = 2 * l) (hh : Heap l z) (h1 : 1 ≤ tt) (h2 : tt ≤ l) (hft : fr < tt) :
    Calls Try.prog 11 #[.int .i64 (l : Int), .slice (some ⟨b, o, none⟩) n c, .int .i64 fr, .int .i64 (tt : Int), .int .i64 bd] w (LastPost w l z fr tt bd) := by
  have H := hid (last26 l b o n c z fr tt bd w hz p hl hl2 hn hh h1 h2 hft)
  clear hl hn hh
  go_enter Try.func11, Try.ntmps11
  go_wp2_with fail
  refine H.out.mono ?_
  rintro e w1 ⟨r, rfl, hr, hb⟩
  go_wp2_with fail
  go_ret
  exact ⟨r, rfl, hr, hb⟩

set_option maxRecDepth 100000 in
set_option maxHeartbeats 1000000 in
theorem zzlast11_none (L : Int) (a : Option Addr) (n c : Nat) (fr t bd : Int) (w : World) (hft : t ≤ fr) :
    Calls Try.prog 11 #[.int .i64 L, .slice a n c, .int .i64 fr, .int .i64 t, .int .i64 bd] w fun e w' => e = .returned (.int .i64 (-1)) ∧ Below w.heap.size w w' := by
  go_enter Try.func11, Try.ntmps11
  go_wp2_with fail
  refine (last26_none L a n c fr t bd w hft).mono ?_
  rintro e w1 ⟨rfl, hb⟩
  go_wp2_with fail
  go_ret
  exact ⟨rfl, hb⟩

set_option maxHeartbeats 1000000 in
theorem lal12_none (L : Int) (a : Option Addr) (n c : Nat) (fr t bd : Int) (w : World) (hft : t ≤ fr) :
    Calls Try.prog 12 #[.int .i64 L, .slice a n c, .int .i64 fr, .int .i64 t, .int .i64 bd] w fun e w' => e = .returned (.int .i64 (-1)) ∧ w' = w := by
  go_enter Try.func12, Try.ntmps12
  go_wp2
  go_ret
  exact ⟨rfl, rfl⟩

set_option maxHeartbeats 1000000 in
theorem lal12 (l : Nat) (b o n c : Nat) (z : Nat → Int) (fr : Int) (tt : Nat) (bd : Int) (w : World) (hz : Arr w (some ⟨b, o, none⟩) n fun i => .int .i64 (z i))
    (hl2 : l ≤ 65536) (hn : 2 * l ≤ n) (h1 : 1 ≤ tt) (h2 : tt ≤ l) (hft : fr < tt) :
    Calls Try.prog 12 #[.int .i64 (l : Int), .slice (some ⟨b, o, none⟩) n c, .int .i64 fr, .int .i64 (tt : Int), .int .i64 bd] w fun e w' => (∃ r, e = .returned (.int .i64 r) ∧ IsLast l z fr tt bd r) ∧ w' = w := by
  obtain ⟨lo, hlo⟩ : ∃ lo : Nat, lo = fr.toNat := ⟨_, rfl⟩
  have hlo1 : fr ≤ (lo : Int) := by omega
  have hlo2 : lo ≤ tt - 1 := by omega
  have HLO : Hid (∀ i : Nat, fr ≤ i → lo ≤ i) := fun i hi => by omega
  have HN := hid hz
  go_enter Try.func12, Try.ntmps12
  go_upto_if 18 with fail
  go_cut [11] (fun v wr => v = .int .i64 lo ∧ wr = w)
  case first =>
    by_cases hf : fr < 0
    · have e : lo = 0 := by omega
      have E := hid e
      clear e hlo
      go_wp2_with fail
      go_meet
      case rel => exact ⟨by rw [E.out]; rfl, rfl⟩
    · have e : fr = (lo : Int) := by omega
      have E := hid e
      clear e hlo
      go_wp2_with fail
      go_meet
      case rel => exact ⟨by rw [E.out], rfl⟩
  case rest =>
    obtain ⟨rfl, rfl⟩ := hcut
    clear hlo
    go_wp2_with fail
    go_loop [12] (fun v => ∃ k : Nat, v = .int .i64 ((k : Int) - 1) ∧ lo ≤ k ∧ k ≤ tt ∧ ∀ x : Nat, k ≤ x → x < tt → z (l + x) < bd) (fun v => (intOf v + 1).toNat)
    case atStart => exact ⟨tt, rfl, by omega, by omega, fun x h3 h4 => by omega⟩
    case round =>
      obtain ⟨k, rfl, hk1, hk2, hbelow⟩ := hrel
      have HB := hid hbelow
      clear hbelow
      by_cases hlt : lo < k
      · obtain ⟨m, rfl⟩ : ∃ m, k = m + 1 := ⟨k - 1, by omega⟩
        have em : ((m + 1 : Nat) : Int) - 1 = (m : Int) := by omega
        rw [em]
        clear em
        have cm := HN.out.cell (k := l + m) (by omega)
        by_cases hzm : bd ≤ z (l + m)
        · go_wp2_with fail
          go_ret
          exact ⟨⟨m, rfl, .inr ⟨m, rfl, by omega, by omega, hzm, fun t h3 h4 => HB.out t (by omega) h4⟩⟩, rfl⟩
        · go_wp2_with fail
          go_round
          case rel =>
            refine ⟨m, rfl, by omega, by omega, fun x h3 h4 => ?_⟩
            by_cases e : x = m
            · subst e; omega
            · exact HB.out x (by omega) h4
          case measure => simp [intOf]
      · have e : k = lo := by omega
        subst e
        go_wp2_with fail
        go_ret
        exact ⟨⟨-1, rfl, .inl ⟨rfl, fun i h3 h4 => HB.out i (HLO.out i h3) h4⟩⟩, rfl⟩
end Go.Proofs.Qxb6601371a
