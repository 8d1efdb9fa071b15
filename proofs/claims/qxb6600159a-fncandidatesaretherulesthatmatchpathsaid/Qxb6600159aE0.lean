import Derived.Test.Qxb6600159aB3
import Derived.Test.Qxb6600159aA1
namespace Go.Proofs.Qxb6600159a
open Go.RowKit
set_option linter.unusedVariables false

/-- The call returns a small number; within the bound, p; the world stands. -/
def RetR (w : World) (p : Prop) (e : Ending) (w' : World) : Prop := ∃ r : Int, e = .returned (.int .i64 r) ∧ 0 ≤ r ∧ r ≤ 1048577 ∧ (r ≤ 1048576 → p) ∧ w' = w

set_option maxHeartbeats 1000000 in
theorem lbytes9R (a : Option Addr) (n c : Nat) (V : Nat → Value) (Q : Nat → List Int) (w : World) (h : Ls w a n V Q) :
    Calls Try.prog 9 #[.slice a n c] w (RetR w (24 * n + 4 * sumL Q n ≤ 1048576)) := by
  have hmax := h.1.1
  go_enter Try.func9, Try.ntmps9
  go_wp2
  · go_ret
    exact ⟨_, rfl, by omega, by omega, fun h => by omega, rfl⟩
  · go_loopw [3, 4] (fun z i wr => ∃ (k : Nat), k ≤ n ∧ i = .int .i64 k ∧ z = .int .i64 ((24 * n + 4 * sumL Q k : Nat) : Int) ∧ 24 * n + 4 * sumL Q k ≤ 50000000 ∧ IsW w wr) (fun _ i _ => n - (intOf i).toNat)
    case atStart => exact ⟨0, Nat.zero_le _, rfl, by simp [sumL], by simp only [sumL]; omega, rfl⟩
    case round =>
      obtain ⟨k, hk, rfl, rfl, hr1, hw⟩ := hrel
      obtain rfl := IsW.eq hw
      by_cases hlt : k < n
      · obtain ⟨b, off, a', c', rfl, hc, _, _, hsk, _⟩ := h.at hlt
        have hli : (k : Int) < (n : Int) := by omega
        have HS := hid (show sumL Q (k + 1) = sumL Q k + (Q k).length from rfl)
        have HM := hid (sumL_mono Q (m := k) (n := n) hk)
        generalize (Q k).length = m at hc hsk HS
        generalize sumL Q k = s at hr1 HS HM
        go_wp2
        · go_ret
          exact ⟨_, rfl, by omega, by omega, fun h => by have := HM.out; omega, rfl⟩
        · go_roundw
          case rel => exact ⟨k + 1, by omega, by go_num, by rw [HS.out]; congr 1; push_cast; omega, by rw [HS.out]; omega, rfl⟩
          case measure => simp [intOf]; omega
        · go_ret
          exact ⟨_, rfl, by omega, by omega, fun h => by have := HM.out; omega, rfl⟩
      · obtain rfl : k = n := by omega
        go_wp2
        · go_ret
          exact ⟨_, rfl, by omega, by omega, fun h => by omega, rfl⟩
        · go_ret
          exact ⟨_, rfl, by omega, by omega, fun h => by omega, rfl⟩


set_option maxHeartbeats 1000000 in
theorem bytes22R (a : Option Addr) (n c : Nat) (S : Nat → ByteArray) (w : World) (h : Arr w a n fun i => .string (S i)) (hs : ∀ i, (S i).size ≤ 9223372036854775807) :
    Calls Try.prog 22 #[.slice a n c] w (RetR w True) := by
  have hmax := h.1
  go_enter Try.func22, Try.ntmps22
  go_wp2
  · go_ret
    exact ⟨_, rfl, by omega, by omega, fun _ => trivial, rfl⟩
  · go_loopw [3, 4] (fun z i wr => ∃ (k : Nat) (r : Int), k ≤ n ∧ i = .int .i64 k ∧ z = .int .i64 r ∧ 0 ≤ r ∧ r ≤ 20000000 ∧ IsW w wr) (fun _ i _ => n - (intOf i).toNat)
    case atStart => exact ⟨0, _, Nat.zero_le _, rfl, rfl, by omega, by omega, rfl⟩
    case round =>
      obtain ⟨k, r, hk, rfl, rfl, hr0, hr1, hw⟩ := hrel
      obtain rfl := IsW.eq hw
      by_cases hlt : k < n
      · obtain ⟨b, off, rfl, hc⟩ := h.at hlt
        have hsk := hs k
        have hli : (k : Int) < (n : Int) := by omega
        go_wp2
        · go_ret
          exact ⟨_, rfl, by omega, by omega, fun _ => trivial, rfl⟩
        · go_roundw
          case rel => exact ⟨k + 1, _, by omega, by go_num, rfl, by omega, by omega, rfl⟩
          case measure => simp [intOf]; omega
        · go_ret
          exact ⟨_, rfl, by omega, by omega, fun _ => trivial, rfl⟩
      · go_wp2
        · go_ret
          exact ⟨_, rfl, by omega, by omega, fun _ => trivial, rfl⟩
        · go_ret
          exact ⟨_, rfl, by omega, by omega, fun _ => trivial, rfl⟩

theorem list21 (a : Option Addr) (n c : Nat) (w : World) (h : n ≤ 9223372036854775807) : Calls Try.prog 21 #[.slice a n c] w (RetN w (4 * n ≤ 1048576)) := by
  go_enter Try.func21, Try.ntmps21
  go_wp2
  · go_ret
    exact ⟨_, rfl, fun h => by omega, rfl⟩
  · go_ret
    exact ⟨_, rfl, fun h => by omega, rfl⟩

theorem list21R (a : Option Addr) (n c : Nat) (w : World) (h : n ≤ 9223372036854775807) : Calls Try.prog 21 #[.slice a n c] w (fun e w' => ∃ r : Int, e = .returned (.int .i64 r) ∧ 0 ≤ r ∧ r ≤ 4194304 ∧ (r ≤ 1048576 → 4 * n ≤ 1048576) ∧ w' = w) := by
  go_enter Try.func21, Try.ntmps21
  go_wp2
  · go_ret
    exact ⟨_, rfl, by omega, by omega, fun h => by omega, rfl⟩
  · go_ret
    exact ⟨_, rfl, by omega, by omega, fun h => by omega, rfl⟩

theorem str23 (s : ByteArray) (w : World) (h : s.size ≤ 9223372036854775807) : Calls Try.prog 23 #[.string s] w (RetR w (s.size ≤ 1048576)) := by
  go_enter Try.func23, Try.ntmps23
  go_wp2
  · go_ret
    exact ⟨_, rfl, by omega, by omega, fun h => by omega, rfl⟩
  · go_ret
    exact ⟨_, rfl, by omega, by omega, fun h => by omega, rfl⟩

theorem pair27 (a b : Nat) (w : World) : Calls Try.prog 27 #[.int .i64 (a : Int), .int .i64 (b : Int)] w (RetNum w (min a b)) := by
  go_enter Try.func27, Try.ntmps27
  go_wp2
  · go_ret
    have e : min a b = a := by omega
    exact ⟨by rw [e]; rfl, rfl⟩
  · go_ret
    have e : min a b = b := by omega
    exact ⟨by rw [e]; rfl, rfl⟩

set_option maxRecDepth 100000 in
set_option maxHeartbeats 4000000 in
theorem zz20 (a0 a1 a2 a3 a4 : Option Addr) (n0 n1 n2 n3 n4 c0 c1 c2 c3 c4 : Nat) (S1 S3 : Nat → ByteArray) (V2 V4 : Nat → Value) (Q2 Q4 : Nat → List Int) (p : ByteArray) (w : World) (m0 : n0 ≤ 9223372036854775807) (h1 : Arr w a1 n1 fun i => .string (S1 i)) (s1 : ∀ i, (S1 i).size ≤ 9223372036854775807) (h2 : Ls w a2 n2 V2 Q2) (h3 : Arr w a3 n3 fun i => .string (S3 i)) (s3 : ∀ i, (S3 i).size ≤ 9223372036854775807) (h4 : Ls w a4 n4 V4 Q4) (sp : p.size ≤ 9223372036854775807) :
    Calls Try.prog 20 #[.slice a0 n0 c0, .slice a1 n1 c1, .slice a2 n2 c2, .slice a3 n3 c3, .slice a4 n4 c4, .string p] w (RetB w True) := by
  have m1 := h1.1
  have m2 := h2.1.1
  have m3 := h3.1
  have m4 := h4.1.1
  go_enter Try.func20, Try.ntmps20
  go_wp2
  · go_ret
    exact retF _ _
  · go_ret
    exact retF _ _
  · go_ret
    exact retF _ _
  · go_loopw [13, 14] (fun z i wr => ∃ (k : Nat) (r : Int), k ≤ n1 ∧ i = .int .i64 k ∧ z = .int .i64 r ∧ 0 ≤ r ∧ r ≤ 1048576 ∧ IsW w wr) (fun _ i _ => n1 - (intOf i).toNat)
    case atStart => exact ⟨0, _, Nat.zero_le _, rfl, rfl, by omega, by omega, rfl⟩
    case round =>
      obtain ⟨k, r, hk, rfl, rfl, hr0, hr1, hw⟩ := hrel
      obtain rfl := IsW.eq hw
      by_cases hlt : k < n1
      · obtain ⟨b, off, rfl, hc⟩ := h1.at hlt
        have hsk := s1 k
        have hli : (k : Int) < (n1 : Int) := by omega
        go_wp2
        · go_ret
          exact retF _ _
        · go_ret
          exact retF _ _
        · go_roundw
          case rel => exact ⟨k + 1, _, by omega, by go_num, rfl, by omega, by omega, rfl⟩
          case measure => simp [intOf]; omega
      · have hge : ¬ k < n1 := hlt
        go_wp2
        · go_ret
          exact retF _ _
        · go_ret
          exact retF _ _
        · go_loopw [13, 15] (fun z i wr => ∃ (k : Nat) (r : Int), k ≤ n2 ∧ i = .int .i64 k ∧ z = .int .i64 r ∧ 0 ≤ r ∧ r ≤ 1048576 ∧ IsW w wr) (fun _ i _ => n2 - (intOf i).toNat)
          case atStart => exact ⟨0, _, Nat.zero_le _, rfl, rfl, by omega, by omega, rfl⟩
          case round =>
            obtain ⟨k, r, hk, rfl, rfl, hr0, hr1, hw⟩ := hrel
            obtain rfl := IsW.eq hw
            by_cases hlt : k < n2
            · obtain ⟨b, off, a', c', rfl, hc, _, _, hsk, _⟩ := h2.at hlt
              have hli : (k : Int) < (n2 : Int) := by omega
              generalize (Q2 k).length = m at hc hsk
              go_wp2
              · go_ret
                exact retF _ _
              · go_ret
                exact retF _ _
              · go_roundw
                case rel => exact ⟨k + 1, _, by omega, by go_num, rfl, by omega, by omega, rfl⟩
                case measure => simp [intOf]; omega
            · have hge : ¬ k < n2 := hlt
              go_wp2
              · go_ret
                exact retF _ _
              · go_ret
                exact retF _ _
              · go_loopw [13, 16] (fun z i wr => ∃ (k : Nat) (r : Int), k ≤ n3 ∧ i = .int .i64 k ∧ z = .int .i64 r ∧ 0 ≤ r ∧ r ≤ 1048576 ∧ IsW w wr) (fun _ i _ => n3 - (intOf i).toNat)
                case atStart => exact ⟨0, _, Nat.zero_le _, rfl, rfl, by omega, by omega, rfl⟩
                case round =>
                  obtain ⟨k, r, hk, rfl, rfl, hr0, hr1, hw⟩ := hrel
                  obtain rfl := IsW.eq hw
                  by_cases hlt : k < n3
                  · obtain ⟨b, off, rfl, hc⟩ := h3.at hlt
                    have hsk := s3 k
                    have hli : (k : Int) < (n3 : Int) := by omega
                    go_wp2
                    · go_ret
                      exact retF _ _
                    · go_ret
                      exact retF _ _
                    · go_roundw
                      case rel => exact ⟨k + 1, _, by omega, by go_num, rfl, by omega, by omega, rfl⟩
                      case measure => simp [intOf]; omega
                  · have hge : ¬ k < n3 := hlt
                    go_wp2
                    · go_ret
                      exact retF _ _
                    · go_ret
                      exact retF _ _
                    · go_loopw [13, 17] (fun z i wr => ∃ (k : Nat) (r : Int), k ≤ n4 ∧ i = .int .i64 k ∧ z = .int .i64 r ∧ 0 ≤ r ∧ r ≤ 1048576 ∧ IsW w wr) (fun _ i _ => n4 - (intOf i).toNat)
                      case atStart => exact ⟨0, _, Nat.zero_le _, rfl, rfl, by omega, by omega, rfl⟩
                      case round =>
                        obtain ⟨k, r, hk, rfl, rfl, hr0, hr1, hw⟩ := hrel
                        obtain rfl := IsW.eq hw
                        by_cases hlt : k < n4
                        · obtain ⟨b, off, a', c', rfl, hc, _, _, hsk, _⟩ := h4.at hlt
                          have hli : (k : Int) < (n4 : Int) := by omega
                          generalize (Q4 k).length = m at hc hsk
                          go_wp2
                          · go_ret
                            exact retF _ _
                          · go_ret
                            exact retF _ _
                          · go_roundw
                            case rel => exact ⟨k + 1, _, by omega, by go_num, rfl, by omega, by omega, rfl⟩
                            case measure => simp [intOf]; omega
                        · have hge : ¬ k < n4 := hlt
                          go_wp2
                          · go_ret
                            exact retF _ _
                          · go_ret
                            exact retF _ _
                          · go_ret
                            exact retT _ _ trivial

end Go.Proofs.Qxb6600159a
