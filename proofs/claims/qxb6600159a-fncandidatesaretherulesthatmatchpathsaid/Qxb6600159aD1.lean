import Derived.Test.Qxb6600159aD0
namespace Go.Proofs.Qxb6600159a
open Go.RowKit
set_option linter.unusedVariables false

set_option maxHeartbeats 1000000 in
theorem allAsc10 (a : Option Addr) (n c : Nat) (V : Nat → Value) (Q : Nat → List Int) (w : World) (h : Ls w a n V Q) :
    Calls Try.prog 10 #[.slice a n c] w (RetDB w (∀ i, i < n → Asc (Q i))) := by
  have hmax := h.1.1
  go_enter Try.func10, Try.ntmps10
  go_wp2
  go_loopw [3] (fun i wr => ∃ k : Nat, k ≤ n ∧ i = .int .i64 k ∧ Hid (∀ i, i < k → Asc (Q i)) ∧ ∃ m, wr = w.drewN m) (fun i _ => n - (intOf i).toNat)
  case atStart => exact ⟨0, Nat.zero_le _, rfl, hid (fun i hi => by omega), 0, rfl⟩
  case round =>
    obtain ⟨k, hk, rfl, HE, m, rfl⟩ := hrel
    by_cases hlt : k < n
    · obtain ⟨b, off, a', c', rfl, hc, _, _, hsk, hA⟩ := h.at hlt
      have hli : (k : Int) < (n : Int) := by omega
      have C := hid (asc24 a' c' (Q k).length (Q k) (w.drewN m) hA rfl)
      generalize (Q k).length = l at hc hsk C
      clear hA
      go_wp2_with fail
      refine C.out.mono ?_
      rintro e w' ⟨b', rfl, hb, m', rfl⟩
      cases b'
      · clear hb
        go_wp2_with fail
        go_ret
        exact ⟨_, rfl, fun h => (by cases h), _, rfl⟩
      · have hb' := hb rfl
        have HB := hid hb'
        clear hb hb'
        go_wp2_with fail
        go_roundw
        case rel =>
          refine ⟨k + 1, by omega, by go_num, hid (fun i hi => ?_), _, rfl⟩
          by_cases e : i = k
          · subst e; exact HB.out
          · exact HE.out i (by omega)
        case measure => simp [intOf]; omega
    · go_wp2
      go_ret
      exact ⟨_, rfl, fun _ i hi => HE.out i (by omega), _, rfl⟩

def RetNum (w : World) (r : Nat) (e : Ending) (w' : World) : Prop := e = .returned (.int .i64 (r : Int)) ∧ w' = w

set_option maxHeartbeats 1000000 in
theorem total14 (a : Option Addr) (n c : Nat) (V : Nat → Value) (Q : Nat → List Int) (w : World) (h : Ls w a n V Q) (hs : sumL Q n ≤ 1048576) (hn : n ≤ 1048576) :
    Calls Try.prog 14 #[.slice a n c] w (RetNum w (sumL Q n)) := by
  go_enter Try.func14, Try.ntmps14
  go_wp2
  go_loopw [3, 4] (fun z i wr => ∃ k : Nat, k ≤ n ∧ i = .int .i64 k ∧ z = .int .i64 (sumL Q k : Nat) ∧ IsW w wr) (fun _ i _ => n - (intOf i).toNat)
  case atStart => exact ⟨0, Nat.zero_le _, rfl, rfl, rfl⟩
  case round =>
    obtain ⟨k, hk, rfl, rfl, hw⟩ := hrel
    obtain rfl := IsW.eq hw
    by_cases hlt : k < n
    · obtain ⟨b, off, a', c', rfl, hc, _, _, hsk, hA⟩ := h.at hlt
      have hli : (k : Int) < (n : Int) := by omega
      have h1 := sumL_mono Q (m := k + 1) (n := n) hlt
      have HS := hid (show sumL Q (k + 1) = sumL Q k + (Q k).length from rfl)
      have h2 : sumL Q k + (Q k).length ≤ 1048576 := by rw [← HS.out]; omega
      clear h1
      generalize (Q k).length = l at hc hsk HS h2
      clear hA
      go_wp2
      go_roundw
      case rel => exact ⟨k + 1, by omega, by go_num, by rw [HS.out]; congr 1, rfl⟩
      case measure => simp [intOf]; omega
    · go_wp2
      go_ret
      obtain rfl : k = n := by omega
      exact ⟨rfl, rfl⟩

/-- What equalInt32 returns. -/
def EqPost (w : World) (p : Prop) (e : Ending) (w' : World) : Prop := ∃ b : Bool, e = .returned (.bool b) ∧ (b = true ↔ p) ∧ ∃ m, w' = w.drewN m

theorem list_eq_getD {p q : List Int} (hl : p.length = q.length) (h : ∀ i, i < p.length → p.getD i 0 = q.getD i 0) : p = q := by
  refine List.ext_getElem hl fun i h1 h2 => ?_
  have := h i h1
  simpa [h1, h2] using this

set_option maxHeartbeats 1000000 in
theorem equal15 (a b : Option Addr) (c d n m : Nat) (p q : List Int) (w : World) (hp : Arr w a n (fun j => .int .i32 (p.getD j 0))) (hq : Arr w b m (fun j => .int .i32 (q.getD j 0))) (hn : p.length = n) (hm : q.length = m) (hn1 : n ≤ 1048577) (hm1 : m ≤ 1048577) :
    Calls Try.prog 15 #[.slice a n c, .slice b m d] w (EqPost w (p = q)) := by
  have HN := hid hn
  have HM := hid hm
  clear hn hm
  by_cases hnm : n = m
  · subst hnm
    go_enter Try.func15, Try.ntmps15
    go_wp2
    go_loopw [5] (fun i wr => ∃ k : Nat, k ≤ n ∧ i = .int .i64 k ∧ Hid (∀ i, i < k → p.getD i 0 = q.getD i 0) ∧ ∃ m, wr = w.drewN m) (fun i _ => n - (intOf i).toNat)
    case atStart => exact ⟨0, Nat.zero_le _, rfl, hid (fun i hi => by omega), 0, rfl⟩
    case round =>
      obtain ⟨k, hk, rfl, HE, mm, rfl⟩ := hrel
      by_cases hlt : k < n
      · obtain ⟨b1, o1, rfl, c1⟩ := hp.at hlt
        obtain ⟨b2, o2, rfl, c2⟩ := hq.at hlt
        have hli : (k : Int) < (n : Int) := by omega
        have HP := hid (fun (h : p = q) => show p.getD k 0 = q.getD k 0 by rw [h])
        have HQ := hid (fun (h : p.getD k 0 = q.getD k 0) (i : Nat) (hi : i < k + 1) => show p.getD i 0 = q.getD i 0 from by
          by_cases e : i = k
          · subst e; exact h
          · exact HE.out i (by omega))
        generalize p.getD k 0 = x at c1 HP HQ
        generalize q.getD k 0 = y at c2 HP HQ
        by_cases e : x = y
        · have hb : (x == y) = true := by simp [e]
          have E := hid e
          clear e
          go_wp2
          go_quiet (fail)
          go_wp2
          go_roundw
          case rel => exact ⟨k + 1, by omega, by go_num, hid (HQ.out E.out), _, rfl⟩
          case measure => simp [intOf]; omega
        · have hb : (x == y) = false := by simp [e]
          have E := hid e
          clear e
          go_wp2
          go_quiet (fail)
          go_wp2
          go_ret
          exact ⟨_, rfl, ⟨fun h => (by cases h), fun h => absurd (HP.out h) E.out⟩, _, World.drewN_drewN _ _ _⟩
      · go_wp2
        go_ret
        exact ⟨_, rfl, ⟨fun _ => list_eq_getD (by rw [HN.out, HM.out]) (fun i hi => HE.out i (by rw [HN.out] at hi; omega)), fun _ => rfl⟩, _, rfl⟩
  · have hne : ((n : Int) == (m : Int)) = false := by simp; omega
    go_enter Try.func15, Try.ntmps15
    go_wp2
    go_ret
    exact ⟨_, rfl, ⟨fun h => (by cases h), fun h => absurd (by rw [← HN.out, ← HM.out, h]) hnm⟩, 0, rfl⟩
end Go.Proofs.Qxb6600159a
