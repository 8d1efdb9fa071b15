import Derived.Test.Qxb6600159aA0
namespace Go.Proofs.Qxb6600159a
open Go.RowKit
set_option linter.unusedVariables false

/-- A slice value that shows the numbers q, in blocks from B on. -/
def IntsF (B : Nat) (w : World) (v : Value) (q : List Int) : Prop :=
  ∃ a c, v = .slice a q.length c ∧ q.length ≤ c ∧ Arr w a q.length (fun j => .int .i32 (q.getD j 0)) ∧ AddrFrom B a
theorem IntsF.later {B : Nat} {w w' : World} {v : Value} {q : List Int} (h : IntsF B w v q) (hb : Below w.heap.size w w') : IntsF B w' v q := by
  obtain ⟨a, c, rfl, h1, h2, h3⟩ := h
  exact ⟨a, c, rfl, h1, h2.later hb, h3⟩
theorem IntsF.mono {B B' : Nat} {w : World} {v : Value} {q : List Int} (h : IntsF B w v q) (hb : B' ≤ B) : IntsF B' w v q := by
  obtain ⟨a, c, rfl, h1, h2, h3⟩ := h
  exact ⟨a, c, rfl, h1, h2, h3.mono hb⟩
theorem IntsF.setCell {w : World} {v : Value} {q : List Int} {p : Addr} (h : IntsF (p.block + 1) w v q) (u : Value) : IntsF (p.block + 1) (w.setCell p u) v q := by
  obtain ⟨a, c, rfl, h1, h2, h3⟩ := h
  exact ⟨a, c, rfl, h1, h2.setCell h3 u, h3⟩

/-- A slice of such slices. -/
def Ls (w : World) (a : Option Addr) (n : Nat) (V : Nat → Value) (Q : Nat → List Int) : Prop := Arr w a n V ∧ ∀ i, i < n → IntsF 0 w (V i) (Q i)
theorem Ls.later {w w' : World} {a : Option Addr} {n : Nat} {V : Nat → Value} {Q : Nat → List Int} (h : Ls w a n V Q) (hb : Below w.heap.size w w') : Ls w' a n V Q := ⟨h.1.later hb, fun i hi => (h.2 i hi).later hb⟩
theorem Ls.at {w : World} {a : Option Addr} {n : Nat} {V : Nat → Value} {Q : Nat → List Int} (h : Ls w a n V Q) {k : Nat} (hk : k < n) :
    ∃ b off a' c', a = some ⟨b, off, none⟩ ∧ w.cell? ⟨b, off + k, none⟩ = some (.slice a' (Q k).length c') ∧ V k = .slice a' (Q k).length c' ∧ (Q k).length ≤ c' ∧ (Q k).length ≤ 9223372036854775807 ∧ Arr w a' (Q k).length (fun j => .int .i32 ((Q k).getD j 0)) := by
  obtain ⟨b, off, rfl, hc⟩ := h.1.at hk
  obtain ⟨a', c', e, h1, h2, _⟩ := h.2 k hk
  exact ⟨b, off, a', c', rfl, by rw [hc, e], e, h1, h2.1, h2⟩

def sumL (Q : Nat → List Int) : Nat → Nat
  | 0 => 0
  | n + 1 => sumL Q n + (Q n).length
theorem sumL_mono (Q : Nat → List Int) {m n : Nat} (h : m ≤ n) : sumL Q m ≤ sumL Q n := by
  induction n with
  | zero => obtain rfl : m = 0 := by omega
            exact Nat.le_refl _
  | succ n ih =>
    by_cases e : m = n + 1
    · subst e; exact Nat.le_refl _
    · have := ih (by omega)
      simp only [sumL]; omega
theorem sumL_le (Q : Nat → List Int) {m n : Nat} (h : m < n) : (Q m).length ≤ sumL Q n := by
  have := sumL_mono Q (m := m + 1) (n := n) h
  simp only [sumL] at this
  omega

set_option maxHeartbeats 1000000 in
theorem zz8 (a : Option Addr) (n c : Nat) (V : Nat → Value) (Q : Nat → List Int) (w : World) (h : Ls w a n V Q) :
    Calls Try.prog 8 #[.slice a n c] w (RetB w True) := by
  have hmax := h.1.1
  go_enter Try.func8, Try.ntmps8
  go_wp2
  · go_ret
    exact retF _ _
  · go_loopw [3, 4] (fun z i wr => ∃ (k : Nat) (r : Int), k ≤ n ∧ i = .int .i64 k ∧ z = .int .i64 r ∧ 0 ≤ r ∧ r ≤ 1048576 ∧ IsW w wr) (fun _ i _ => n - (intOf i).toNat)
    case atStart => exact ⟨0, n, Nat.zero_le _, rfl, rfl, by omega, by omega, rfl⟩
    case round =>
      obtain ⟨k, r, hk, rfl, rfl, hr0, hr1, hw⟩ := hrel
      obtain rfl := IsW.eq hw
      by_cases hlt : k < n
      · obtain ⟨b, off, a', c', rfl, hc, _, _, hsk, _⟩ := h.at hlt
        have hli : (k : Int) < (n : Int) := by omega
        generalize (Q k).length = m at hc hsk
        go_wp2
        · go_ret
          exact retF _ _
        · go_ret
          exact retF _ _
        · go_roundw
          case rel => exact ⟨k + 1, _, by omega, by go_num, rfl, by omega, by omega, rfl⟩
          case measure => simp [intOf]; omega
      · go_wp2
        go_ret
        exact retT _ _ trivial

/-- The call returns a number; within the bound, p; the world stands. -/
def RetN (w : World) (p : Prop) (e : Ending) (w' : World) : Prop := ∃ r : Int, e = .returned (.int .i64 r) ∧ (r ≤ 1048576 → p) ∧ w' = w

set_option maxHeartbeats 1000000 in
theorem lbytes9 (a : Option Addr) (n c : Nat) (V : Nat → Value) (Q : Nat → List Int) (w : World) (h : Ls w a n V Q) :
    Calls Try.prog 9 #[.slice a n c] w (RetN w (24 * n + 4 * sumL Q n ≤ 1048576)) := by
  have hmax := h.1.1
  go_enter Try.func9, Try.ntmps9
  go_wp2
  · go_ret
    exact ⟨_, rfl, fun h => by omega, rfl⟩
  · go_loopw [3, 4] (fun z i wr => ∃ (k : Nat), k ≤ n ∧ i = .int .i64 k ∧ z = .int .i64 ((24 * n + 4 * sumL Q k : Nat) : Int) ∧ 24 * n + 4 * sumL Q k ≤ 50000000 ∧ IsW w wr) (fun _ i _ => n - (intOf i).toNat)
    case atStart => exact ⟨0, Nat.zero_le _, rfl, by simp [sumL], by simp only [sumL]; omega, rfl⟩
    case round =>
      obtain ⟨k, hk, rfl, rfl, hr1, hw⟩ := hrel
      obtain rfl := IsW.eq hw
      by_cases hlt : k < n
      · obtain ⟨b, off, a', c', rfl, hc, _, _, hsk, _⟩ := h.at hlt
        have hli : (k : Int) < (n : Int) := by omega
        have HS := hid (show sumL Q (k + 1) = sumL Q k + (Q k).length from rfl)
        have HM := hid (sumL_mono Q (m := k) (n := n) hk)
        generalize (Q k).length = m at hc hsk HS
        generalize sumL Q k = s at hr1 HS HM
        go_wp2
        · go_ret
          exact ⟨_, rfl, fun h => by have := HM.out; omega, rfl⟩
        · go_roundw
          case rel => exact ⟨k + 1, by omega, by go_num, by rw [HS.out]; congr 1; push_cast; omega, by rw [HS.out]; omega, rfl⟩
          case measure => simp [intOf]; omega
        · go_ret
          exact ⟨_, rfl, fun h => by have := HM.out; omega, rfl⟩
      · obtain rfl : k = n := by omega
        go_wp2
        · go_ret
          exact ⟨_, rfl, fun h => by omega, rfl⟩
        · go_ret
          exact ⟨_, rfl, fun h => by omega, rfl⟩

/-- Strictly ascending, none negative. -/
def Asc (q : List Int) : Prop := (∀ i, i < q.length → 0 ≤ q.getD i 0) ∧ ∀ i, i + 1 < q.length → q.getD i 0 < q.getD (i + 1) 0

/-- The call returns some bool; if it is true then p; it may draw. -/
def RetDB (w : World) (p : Prop) (e : Ending) (w' : World) : Prop := ∃ b : Bool, e = .returned (.bool b) ∧ (b = true → p) ∧ ∃ m, w' = w.drewN m

set_option maxHeartbeats 1000000 in
theorem asc24 (a : Option Addr) (c n : Nat) (q : List Int) (w : World) (h : Arr w a n (fun j => .int .i32 (q.getD j 0))) (hn : q.length = n) :
    Calls Try.prog 24 #[.slice a n c] w (RetDB w (Asc q)) := by
  have HN := hid hn
  clear hn
  have hmax := h.1
  go_enter Try.func24, Try.ntmps24
  go_wp2
  go_loopw [3] (fun i wr => ∃ k : Nat, k ≤ n ∧ i = .int .i64 k ∧ Hid ((∀ i, i < k → 0 ≤ q.getD i 0) ∧ ∀ i, i + 1 < k → q.getD i 0 < q.getD (i + 1) 0) ∧ ∃ m, wr = w.drewN m) (fun i _ => n - (intOf i).toNat)
  case atStart => exact ⟨0, Nat.zero_le _, rfl, hid ⟨fun i hi => by omega, fun i hi => by omega⟩, 0, rfl⟩
  case round =>
    obtain ⟨k, hk, rfl, HE, m, rfl⟩ := hrel
    by_cases hlt : k < n
    · obtain ⟨b, off, rfl, hc⟩ := h.at hlt
      have hli : (k : Int) < (n : Int) := by omega
      obtain ⟨x, hx⟩ : ∃ x, x = q.getD k 0 := ⟨_, rfl⟩
      rw [← hx] at hc
      have HX := hid hx
      clear hx
      by_cases h0 : x < 0
      · go_wp2
        go_ret
        exact ⟨_, rfl, fun h => (by cases h), _, rfl⟩
      · have h0' : 0 ≤ x := by omega
        by_cases hk0 : k = 0
        · subst hk0
          rw [Nat.add_zero] at hc
          have hd : decide ((0 : Int) < ((0 : Nat) : Int)) = false := by decide
          go_wp2
          go_quiet (fail)
          go_wp2
          go_roundw
          case rel =>
            refine ⟨1, by omega, by go_num, hid ⟨fun i hi => ?_, fun i hi => (by omega)⟩, _, rfl⟩
            obtain rfl : i = 0 := by omega
            rw [← HX.out]
            exact h0'
          case measure => simp [intOf]; omega
        · obtain ⟨p, rfl⟩ : ∃ p, k = p + 1 := ⟨k - 1, by omega⟩
          have hc2 := h.cell (k := p) (by omega)
          obtain ⟨y, hy⟩ : ∃ y, y = q.getD p 0 := ⟨_, rfl⟩
          rw [← hy] at hc2
          have HY := hid hy
          clear hy
          have hd : decide ((0 : Int) < ((p + 1 : Nat) : Int)) = true := by simp
          have hs : ((p + 1 : Nat) : Int) - 1 = (p : Int) := by omega
          have i1 : (p : Int) < (n : Int) := by omega
          have i2 : (0 : Int) ≤ (p : Int) := by omega
          by_cases hxy : x ≤ y
          · have hle : decide (x ≤ y) = true := by simp [hxy]
            go_wp2
            go_quiet (fail)
            go_wp2
            go_ret
            exact ⟨_, rfl, fun h => (by cases h), _, World.drewN_drewN _ _ _⟩
          · have hle : decide (x ≤ y) = false := by simp; omega
            go_wp2
            go_quiet (fail)
            go_wp2
            go_roundw
            case rel =>
              refine ⟨p + 1 + 1, by omega, by go_num, hid ⟨fun i hi => ?_, fun i hi => ?_⟩, _, rfl⟩
              · by_cases e : i = p + 1
                · subst e; rw [← HX.out]; exact h0'
                · exact HE.out.1 i (by omega)
              · by_cases e : i = p
                · subst e; rw [← HX.out, ← HY.out]; omega
                · exact HE.out.2 i (by omega)
            case measure => simp [intOf]; omega
    · go_wp2
      go_ret
      have e : k = n := by omega
      subst e
      refine ⟨_, rfl, fun _ => ?_, _, rfl⟩
      unfold Asc
      rw [HN.out]
      exact HE.out
end Go.Proofs.Qxb6600159a
