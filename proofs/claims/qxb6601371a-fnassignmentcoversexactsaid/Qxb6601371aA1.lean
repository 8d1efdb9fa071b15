import Derived.Test.Qxb6601371aA0
import Derived.Test.Qxb6601371aP1
namespace Go.Proofs.Qxb6601371a
open Go.RowKit
set_option linter.unusedVariables false

set_option maxHeartbeats 400000 in
theorem zz8 (L : Int) (a : Option Addr) (n c : Nat) (f t b : Int) (w : World) (hn : n ≤ 9223372036854775807) :
    Calls Try.prog 8 #[.int .i64 L, .slice a n c, .int .i64 f, .int .i64 t, .int .i64 b] w (RetB w (n ≤ 1048576)) := by
  go_enter Try.func8, Try.ntmps8
  go_wp2
  all_goals go_ret
  all_goals first | exact retF _ _ | exact retT _ _ (by omega)

set_option maxHeartbeats 400000 in
theorem max25 (a b : Int) (w : World) : Calls Try.prog 25 #[.int .i64 a, .int .i64 b] w fun e w' => e = .returned (.int .i64 (mx a b)) ∧ w' = w := by
  by_cases h : b ≤ a
  · go_enter Try.func25, Try.ntmps25
    go_wp2
    go_ret
    exact ⟨by simp [mx, h], rfl⟩
  · go_enter Try.func25, Try.ntmps25
    go_wp2
    go_ret
    have e : mx a b = b := by rw [mx, if_neg (by omega)]
    rw [e]
    exact ⟨rfl, rfl⟩

/-- The tree is of the documented shape: no leaf and no node, or a power of two of leaves. -/
def Shape (L : Int) (n : Nat) (z : Nat → Int) : Prop := (L = 0 ∧ n = 0) ∨ ∃ p : Nat, L = ((2 ^ p : Nat) : Int) ∧ 2 ^ p ≤ 65536 ∧ n = 2 * 2 ^ p ∧ Heap (2 ^ p) z

/-- The call returns some bool; if it is true then p; the world has drawn, no more. -/
def RetBD (w : World) (p : Prop) (e : Ending) (w' : World) : Prop := ∃ b : Bool, e = .returned (.bool b) ∧ (b = true → p) ∧ ∃ m, w' = w.drewN m

theorem ofInt_i64 (a : Nat) (ha : a < 9223372036854775808) : (BitVec.ofInt 64 (a : Int)).toNat = a := by
  rw [BitVec.ofInt_natCast, BitVec.toNat_ofNat]; exact Nat.mod_eq_of_lt (by omega)
theorem i64_and_nat (a b : Nat) (ha : a < 9223372036854775808) (hb : b < 9223372036854775808) : bits .and .i64 (a : Int) (b : Int) = ((a &&& b : Nat) : Int) := by
  have hx : a &&& b ≤ a := Nat.and_le_left
  show IntKind.i64.wrap ((BitVec.ofInt 64 (a : Int) &&& BitVec.ofInt 64 (b : Int)).toNat : Int) = _
  rw [BitVec.toNat_and, ofInt_i64 a ha, ofInt_i64 b hb, IntKind.wrap_i64]
  omega
theorem and_test (l : Nat) (h1 : 1 ≤ l) (hl : l ≤ 65536) : bits .and .i64 (l : Int) ((l : Int) - 1) = ((l &&& (l - 1) : Nat) : Int) := by
  have e : (l : Int) - 1 = ((l - 1 : Nat) : Int) := by omega
  rw [e, i64_and_nat _ _ (by omega) (by omega)]

set_option maxHeartbeats 1000000 in
theorem wf9 (L : Int) (a : Option Addr) (n c : Nat) (z : Nat → Int) (w : World) (hz : Arr w a n fun i => .int .i64 (z i)) :
    Calls Try.prog 9 #[.int .i64 L, .slice a n c] w (RetBD w (Shape L n z)) := by
  have hn := hz.1
  by_cases h0 : L < 0 ∨ 65536 < L
  · rcases h0 with h0 | h0
    · go_enter Try.func9, Try.ntmps9
      go_wp2
      go_ret
      exact ⟨false, rfl, fun h => (by cases h), 0, rfl⟩
    · have h1 : ¬ L < 0 := by omega
      go_enter Try.func9, Try.ntmps9
      go_wp2
      go_ret
      exact ⟨false, rfl, fun h => (by cases h), 0, rfl⟩
  · obtain ⟨l, rfl⟩ := Int.eq_ofNat_of_zero_le (show 0 ≤ L by omega)
    have hl : l ≤ 65536 := by omega
    clear h0
    by_cases h0 : l = 0
    · subst h0
      go_enter Try.func9, Try.ntmps9
      go_wp2
      go_ret
      refine ⟨_, rfl, fun h => .inl ⟨rfl, ?_⟩, 0, rfl⟩
      simpa using h
    · have h1 : 1 ≤ l := by omega
      have hat := and_test l h1 hl
      by_cases hand : l &&& (l - 1) = 0
      · have hb : (bits .and .i64 (l : Int) ((l : Int) - 1) != 0) = false := by rw [hat, hand]; rfl
        obtain ⟨p, hp⟩ := pow_of_and l l (Nat.le_refl _) h1 hand
        clear hat hand
        by_cases hn2 : n = 2 * l
        · have HP := hid hp
          have HN := hid hn2
          have hn2a : n ≤ 2 * l := by omega
          have hn2b : 2 * l ≤ n := by omega
          have hb2 : ((n : Int) != 2 * (l : Int)) = false := by simp; omega
          clear hp hn2
          go_enter Try.func9, Try.ntmps9
          go_wp2
          go_loopw [5] (fun i wr => ∃ k : Nat, 1 ≤ k ∧ k ≤ l ∧ i = .int .i64 k ∧ (∀ j, 1 ≤ j → j < k → z j = mx (z (2 * j)) (z (2 * j + 1))) ∧ ∃ q, wr = w.drewN q) (fun i _ => l - (intOf i).toNat)
          case atStart => exact ⟨1, by omega, by omega, rfl, fun j _ _ => by omega, 0, rfl⟩
          case round =>
            obtain ⟨k, hk1, hk2, rfl, hh, q, hq⟩ := hrel
            have HH := hid hh
            have HQ := hid hq
            have hz : Arr wr a n fun i => .int .i64 (z i) := by rw [hq]; exact hz.drewN q
            clear hh hq
            by_cases hlt : k < l
            · obtain ⟨b, o, rfl, c1⟩ := hz.at (k := k) (by omega)
              obtain ⟨m, hm⟩ : ∃ m : Nat, m = 2 * k := ⟨_, rfl⟩
              obtain ⟨m1, hm1⟩ : ∃ m1 : Nat, m1 = 2 * k + 1 := ⟨_, rfl⟩
              have c2 := hz.cell (k := m) (by omega)
              have c3 := hz.cell (k := m1) (by omega)
              have l1 : (k : Int) < (n : Int) := by omega
              have l2 : (m : Int) < (n : Int) := by omega
              have l3 : (m1 : Int) < (n : Int) := by omega
              have e1 : 2 * (k : Int) = (m : Int) := by omega
              have e2 : (m : Int) + 1 = (m1 : Int) := by omega
              have e3 : IntKind.i64.wrap (m : Int) = (m : Int) := by rw [IntKind.wrap_i64]; omega
              have e4 : IntKind.i64.wrap (m1 : Int) = (m1 : Int) := by rw [IntKind.wrap_i64]; omega
              have HM := hid hm
              have HM1 := hid hm1
              clear hm hm1
              by_cases heq : z k = mx (z m) (z m1)
              · have hb3 : (z k != mx (z m) (z m1)) = false := by rw [← heq]; simp
                have HE := hid heq
                clear heq
                go_wp2
                go_quiet ((go_at_call 25; exact Calls.quiet_of_same (max25 _ _ _)))
                go_wp2
                go_roundw
                case rel =>
                  refine ⟨k + 1, by omega, by omega, by go_num, fun j hj1 hj2 => ?_, q + nq, by rw [HQ.out]; exact World.drewN_drewN _ _ _⟩
                  by_cases e : j = k
                  · subst e
                    rw [← HM1.out, ← HM.out]; exact HE.out
                  · exact HH.out j hj1 (by omega)
                case measure => simp [intOf]; omega
              · have hb3 : (z k != mx (z m) (z m1)) = true := by simp [heq]
                go_wp2
                go_quiet ((go_at_call 25; exact Calls.quiet_of_same (max25 _ _ _)))
                go_wp2
                go_ret
                exact ⟨false, rfl, fun h => (by cases h), q + nq, by rw [HQ.out]; exact World.drewN_drewN _ _ _⟩
            · go_wp2
              go_ret
              refine ⟨true, rfl, fun _ => .inr ⟨p, by rw [HP.out], by rw [← HP.out]; omega, by rw [← HP.out]; exact HN.out, ?_⟩, q, HQ.out⟩
              rw [← HP.out]
              exact fun j h1 h2 => HH.out j h1 (by omega)
        · have hb2 : ((n : Int) != 2 * (l : Int)) = true := by simp; omega
          clear hp hn2
          go_enter Try.func9, Try.ntmps9
          go_wp2
          go_ret
          exact ⟨false, rfl, fun h => (by cases h), 0, rfl⟩
      · have hb : (bits .and .i64 (l : Int) ((l : Int) - 1) != 0) = true := by rw [hat]; simp; omega
        clear hat hand
        go_enter Try.func9, Try.ntmps9
        go_wp2
        go_ret
        exact ⟨false, rfl, fun h => (by cases h), 0, rfl⟩
end Go.Proofs.Qxb6601371a
