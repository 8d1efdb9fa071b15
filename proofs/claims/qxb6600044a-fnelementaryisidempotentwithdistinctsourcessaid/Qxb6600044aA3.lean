import Derived.Test.Qxb6600044aA2
import Derived.Deep.QuietTactic
import Derived.BigQuiet
namespace Go.Proofs.Qxb6600044a
open Go.RowKit
set_option linter.unusedVariables false

/-- The call returns the bool that says p; the world has drawn, no more. -/
def RetD (w : World) (p : Prop) (e : Ending) (w' : World) : Prop := ∃ b : Bool, e = .returned (.bool b) ∧ (b = true ↔ p) ∧ ∃ m, w' = w.drewN m
theorem retDF {w w' : World} {p : Prop} (h : ¬ p) (hw : ∃ m, w' = w.drewN m) : RetD w p (.returned (.bool false)) w' := ⟨false, rfl, ⟨fun h => (by cases h), fun k => absurd k h⟩, hw⟩
theorem retDT {w w' : World} {p : Prop} (h : p) (hw : ∃ m, w' = w.drewN m) : RetD w p (.returned (.bool true)) w' := ⟨true, rfl, ⟨fun _ => h, fun _ => rfl⟩, hw⟩
def Same (n m : Nat) (x y : Nat → Int) : Prop := n = m ∧ ∀ i, i < n → x i = y i

set_option maxHeartbeats 1000000 in
theorem eq30 (a b : Option Addr) (n m c d : Nat) (x y : Nat → Int) (w : World) (hx : Arr w a n fun i => .int .i64 (x i)) (hy : Arr w b m fun i => .int .i64 (y i)) :
    Calls Try.prog 30 #[.slice a n c, .slice b m d] w (RetD w (Same n m x y)) := by
  by_cases hnm : n = m
  · subst hnm
    have h63 := hx.1
    go_enter Try.func30, Try.ntmps30
    go_wp2
    go_loopw [5] (fun i wr => ∃ k : Nat, k ≤ n ∧ i = .int .i64 k ∧ (∀ j, j < k → x j = y j) ∧ ∃ q, wr = w.drewN q) (fun i _ => n - (intOf i).toNat)
    case atStart => exact ⟨0, Nat.zero_le _, rfl, fun j hj => by omega, 0, rfl⟩
    case round =>
      obtain ⟨k, hk, rfl, heq, q, rfl⟩ := hrel
      have HE : Hid (∀ j, j < k → x j = y j) := heq
      clear heq
      by_cases hlt : k < n
      · obtain ⟨b1, o1, rfl, hc1⟩ := hx.at hlt
        obtain ⟨b2, o2, rfl, hc2⟩ := hy.at hlt
        have hli : (k : Int) < (n : Int) := by omega
        by_cases hne : x k = y k
        · have hb : (x k != y k) = false := by simp [hne]
          have HN : Hid (x k = y k) := hne
          clear hne
          go_wp2
          go_quiet (fail)
          go_wp2
          go_roundw
          case rel =>
            refine ⟨k + 1, by omega, by go_num, fun j hj => ?_, _, rfl⟩
            by_cases e : j = k
            · subst e; exact HN.out
            · exact HE.out j (by omega)
          case measure => simp [intOf]; omega
        · have hb : (x k != y k) = true := by simp [hne]
          go_wp2
          go_quiet (fail)
          go_wp2
          go_ret
          exact retDF (fun h => hne (h.2 k hlt)) ⟨_, World.drewN_drewN _ _ _⟩
      · go_wp2
        go_ret
        exact retDT ⟨rfl, fun j hj => HE.out j (by omega)⟩ ⟨_, rfl⟩
  · have hb : ((n : Int) != (m : Int)) = true := by rw [bne_iff_ne]; omega
    go_enter Try.func30, Try.ntmps30
    go_wp2
    go_ret
    exact retDF (fun h => hnm h.1) ⟨0, rfl⟩

set_option maxHeartbeats 1000000 in
theorem eq49 (a b : Option Addr) (n m c d : Nat) (x y : Nat → Int) (w : World) (hx : Arr w a n fun i => .int .i64 (x i)) (hy : Arr w b m fun i => .int .i64 (y i)) :
    Calls Try.prog 49 #[.slice a n c, .slice b m d] w (RetD w (Same n m x y)) := by
  by_cases hnm : n = m
  · subst hnm
    have h63 := hx.1
    go_enter Try.func49, Try.ntmps49
    go_wp2
    go_loopw [13] (fun i wr => ∃ k : Nat, k ≤ n ∧ i = .int .i64 k ∧ (∀ j, j < k → x j = y j) ∧ ∃ q, wr = w.drewN q) (fun i _ => n - (intOf i).toNat)
    case atStart => exact ⟨0, Nat.zero_le _, rfl, fun j hj => by omega, 0, rfl⟩
    case round =>
      obtain ⟨k, hk, rfl, heq, q, rfl⟩ := hrel
      have HE : Hid (∀ j, j < k → x j = y j) := heq
      clear heq
      by_cases hlt : k < n
      · obtain ⟨b1, o1, rfl, hc1⟩ := hx.at hlt
        obtain ⟨b2, o2, rfl, hc2⟩ := hy.at hlt
        have hli : (k : Int) < (n : Int) := by omega
        by_cases hne : x k = y k
        · have hb : (x k != y k) = false := by simp [hne]
          have HN : Hid (x k = y k) := hne
          clear hne
          go_wp2
          go_quiet (fail)
          go_wp2
          go_roundw
          case rel =>
            refine ⟨k + 1, by omega, by go_num, fun j hj => ?_, _, rfl⟩
            by_cases e : j = k
            · subst e; exact HN.out
            · exact HE.out j (by omega)
          case measure => simp [intOf]; omega
        · have hb : (x k != y k) = true := by simp [hne]
          go_wp2
          go_quiet (fail)
          go_wp2
          go_ret
          exact retDF (fun h => hne (h.2 k hlt)) ⟨_, World.drewN_drewN _ _ _⟩
      · go_wp2
        go_ret
        exact retDT ⟨rfl, fun j hj => HE.out j (by omega)⟩ ⟨_, rfl⟩
  · have hb : ((n : Int) != (m : Int)) = true := by rw [bne_iff_ne]; omega
    go_enter Try.func49, Try.ntmps49
    go_wp2
    go_ret
    exact retDF (fun h => hnm h.1) ⟨0, rfl⟩

theorem grownBy_refl (w : World) (r : Option Nat) : w.grownBy w r := ⟨rfl, rfl, rfl, Nat.le_refl _, fun _ _ _ => rfl⟩
theorem grownBy_trans {w w1 w2 : World} {r : Option Nat} (h : w.grownBy w1 r) (k : w1.grownBy w2 r) : w.grownBy w2 r :=
  ⟨k.os.trans h.os, k.tape.trans h.tape, k.output.trans h.output, Nat.le_trans h.size k.size, fun i hi hn => (k.block i (Nat.lt_of_lt_of_le hi h.size) hn).trans (h.block i hi hn)⟩
theorem grownBy_setCell (w : World) (p : Addr) (u : Value) : w.grownBy (w.setCell p u) (some p.block) :=
  ⟨rfl, rfl, rfl, by simp [World.setCell], fun k hk hn => Below.heap_setCell w p u k (fun e => hn (by rw [e]))⟩
theorem grownBy_drewN {w w1 : World} {r : Option Nat} (h : w.grownBy w1 r) (m : Nat) : w.grownBy (w1.drewN m) r := ⟨h.os, h.tape, h.output, h.size, h.block⟩

/-- What the reversal has done after i exchanges. -/
def revAt (n i : Nat) (x : Nat → Int) (t : Nat) : Int := if t < i ∨ n ≤ t + i then x (n - 1 - t) else x t

theorem revAt_step (n i : Nat) (x : Nat → Int) (hi : i < n - 1 - i) (t : Nat) (ht : t < n) :
    revAt n (i + 1) x t = if t = n - 1 - i then x i else if t = i then x (n - 1 - i) else revAt n i x t := by
  unfold revAt
  by_cases e : t = n - 1 - i
  · subst e; rw [if_pos (by omega), if_pos rfl]; congr 1; omega
  · by_cases e2 : t = i
    · subst e2; rw [if_pos (by omega), if_neg e, if_pos rfl]
    · rw [if_neg e, if_neg e2]
      by_cases e3 : t < i ∨ n ≤ t + i
      · rw [if_pos (by omega), if_pos e3]
      · rw [if_neg (by omega), if_neg e3]

theorem revAt_end (n i : Nat) (x : Nat → Int) (hi : n - 1 - i ≤ i) (hj : 2 * i ≤ n) (t : Nat) (ht : t < n) : revAt n i x t = x (n - 1 - t) := by
  unfold revAt
  by_cases e3 : t < i ∨ n ≤ t + i
  · rw [if_pos e3]
  · rw [if_neg e3]; congr 1; omega

def RevPost (g cap n : Nat) (x : Nat → Int) (w : World) (e : Ending) (w' : World) : Prop :=
  e = .returned (.tuple #[]) ∧ (∃ f', w'.rowIs g 2 cap f' ∧ ∀ i, i < n → f' i = .int .i64 (x (n - 1 - i))) ∧ w.grownBy w' (some g)

set_option maxHeartbeats 1000000 in
theorem rev48 (g cap n : Nat) (x : Nat → Int) (f : Nat → Value) (w : World) (hrow : w.rowIs g 2 cap f) (hf : ∀ i, i < n → f i = .int .i64 (x i)) (hn : n ≤ cap) (hc : n ≤ 9223372036854775807) :
    Calls Try.prog 48 #[.slice (some ⟨g, 0, none⟩) n cap] w (RevPost g cap n x w) := by
  go_enter Try.func48, Try.ntmps48
  go_wp2
  go_loopw [2, 3] (fun i j wr => ∃ k : Nat, 2 * k ≤ n ∧ i = .int .i64 k ∧ j = .int .i64 ((n : Int) - 1 - k) ∧ (∃ f', wr.rowIs g 2 cap f' ∧ ∀ t, t < n → f' t = .int .i64 (revAt n k x t)) ∧ w.grownBy wr (some g)) (fun i _ _ => n - (intOf i).toNat)
  case atStart => exact ⟨0, Nat.zero_le _, rfl, by simp, ⟨f, hrow, fun t ht => by rw [hf t ht]; simp [revAt]; omega⟩, grownBy_refl _ _⟩
  case round =>
    obtain ⟨k, hk, rfl, rfl, ⟨f', hr, hf'⟩, hg⟩ := hrel
    by_cases hlt : k < n - 1 - k
    · have ek : (n : Int) - 1 - k = ((n - 1 - k : Nat) : Int) := by omega
      rw [ek]
      have HK : Hid ((n : Int) - 1 - k = ((n - 1 - k : Nat) : Int)) := ek
      clear ek
      have hb1 : n - 1 - k < n := by omega
      obtain ⟨m, hm⟩ : ∃ m, m = n - 1 - k := ⟨_, rfl⟩
      rw [← hm]
      rw [← hm] at hlt
      have HM : Hid (m = n - 1 - k) := hm
      have hmn : m < n := by omega
      clear hm hb1
      have c1 : wr.cell? ⟨g, k, none⟩ = some (.int .i64 (revAt n k x k)) := by rw [hr.cell (by omega), hf' k (by omega)]
      have c2 : wr.cell? ⟨g, m, none⟩ = some (.int .i64 (revAt n k x m)) := by rw [hr.cell (by omega), hf' m (by omega)]
      have f1 := hr.frozen k
      have f2 := hr.frozen m
      have HR : Hid (wr.rowIs g 2 cap f' ∧ ∀ t, t < n → f' t = .int .i64 (revAt n k x t)) := ⟨hr, hf'⟩
      clear hr hf' hf hrow
      go_wp2
      go_region
      go_wp2
      go_roundw
      case rel =>
        obtain ⟨hr, hf'⟩ := HR.out
        have hm := HM.out
        refine ⟨k + 1, by omega, by go_num, by rw [Value.int.injEq]; exact ⟨rfl, by omega⟩, ⟨_, ((hr.set k _).set m _).drew, fun t ht => ?_⟩, ?_⟩
        · have e1 : revAt n k x m = x m := by unfold revAt; rw [if_neg (by omega)]
          have e2 : revAt n k x k = x k := by unfold revAt; rw [if_neg (by omega)]
          rw [e1, e2]
          have := revAt_step n k x (by omega) t ht
          rw [this, ← hm]
          by_cases h1 : t = m
          · simp [h1]
          · by_cases h2 : t = k
            · rw [if_neg h1, if_pos h2, if_neg h1, if_pos h2]
            · simp [h1, h2, hf' t ht]
        · have g1 := grownBy_setCell wr ⟨g, k, none⟩ (.int .i64 (revAt n k x m))
          have g2 := grownBy_setCell (wr.setCell ⟨g, k, none⟩ (.int .i64 (revAt n k x m))) ⟨g, m, none⟩ (.int .i64 (revAt n k x k))
          exact grownBy_drewN (grownBy_trans (grownBy_trans hg g1) g2) 1
      case measure => simp [intOf]; omega
    · have hge : (n : Int) - 1 - k ≤ k := by omega
      go_wp2
      go_end0
      exact ⟨rfl, ⟨f', hr, fun i hi => by rw [hf' i hi, revAt_end n k x (by omega) hk i hi]⟩, hg⟩

end Go.Proofs.Qxb6600044a
