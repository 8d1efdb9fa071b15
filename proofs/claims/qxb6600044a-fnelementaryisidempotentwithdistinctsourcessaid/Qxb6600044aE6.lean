import Derived.Test.Qxb6600044aE5
namespace Go.Proofs.Qxb6600044a
open Go.RowKit
set_option linter.unusedVariables false

/-- slices.Concat of two slices of arcs, the first not empty. -/
def ccN (n m k : Nat) : Nat := if k = 0 then 0 else if k = 1 then n else n + m
def ccL (A B : List Arc) (k : Nat) : List Arc := if k = 0 then [] else if k = 1 then A else A ++ B
def ccRel (w : World) (G cap n m : Nat) (A B : List Arc) (v i : Value) (wr : World) : Prop :=
  ∃ k : Nat, k ≤ 2 ∧ i = .int .i64 k ∧ v = .slice (some ⟨G, 0, none⟩) (ccN n m k) cap ∧ wr.ownsRow G 74 4 (.slice (some ⟨G, 0, none⟩) (ccN n m k) cap) (ccN n m k) (avs (ccL A B k)) ∧ Below w.heap.size w wr

set_option maxHeartbeats 1000000 in
theorem concat47 (g b1 o1 b2 o2 n m c1 c2 : Nat) (A B : List Arc) (w : World)
    (h0 : w.cell? ⟨g, 0, none⟩ = some (.slice (some ⟨b1, o1, none⟩) n c1)) (h1 : w.cell? ⟨g, 1, none⟩ = some (.slice (some ⟨b2, o2, none⟩) m c2))
    (hA : Arcs w (some ⟨b1, o1, none⟩) A) (hB : Arcs w (some ⟨b2, o2, none⟩) B) (hn : A.length = n) (hm : B.length = m) (hn1 : 1 ≤ n) (hn4 : n + m ≤ 4096) :
    Calls Try.prog 47 #[.slice (some ⟨g, 0, none⟩) 2 2] w (RetArcs w (A ++ B)) := by
  obtain ⟨i0, hi, hz0, hz1, hz2⟩ := info_parts Try.info74
  have HA := hid hn
  have HB := hid hm
  clear hn hm
  go_enter Try.func47, Try.ntmps47
  go_wp2
  go_loopw [3, 5, 11] (fun s _ i wr => ∃ k : Nat, k ≤ 2 ∧ i = .int .i64 k ∧ s = .int .i64 (ccN n m k : Nat) ∧ wr = w) (fun _ _ i _ => 2 - (intOf i).toNat)
  case atStart => exact ⟨0, Nat.zero_le _, rfl, rfl, rfl⟩
  case round =>
    obtain ⟨k, hk, rfl, hs, hw⟩ := hrel
    obtain rfl := hw.symm
    have hk3 : k = 0 ∨ k = 1 ∨ k = 2 := by omega
    rcases hk3 with rfl | rfl | rfl
    · obtain rfl : _ = Value.int .i64 0 := hs
      go_wp2
      go_roundw
      case rel => exact ⟨1, by omega, by go_num, rfl, trivial⟩
      case measure => simp [intOf]
    · obtain rfl : _ = Value.int .i64 (n : Int) := hs
      go_wp2
      go_roundw
      case rel => exact ⟨2, by omega, by go_num, by simp [ccN], trivial⟩
      case measure => simp [intOf]
    · obtain rfl : _ = Value.int .i64 ((n + m : Nat) : Int) := hs
      go_wp2_with fail
      refine (grow50 (n + m) w (by omega) (by omega)).mono ?_
      rintro e w1 ⟨cap, rfl, hcap, hown, hbel, hsz⟩
      go_wp2
      go_loopw [6, 8, 27] (fun v _ i wr => ccRel w w.heap.size cap n m A B v i wr) (fun _ _ i _ => 2 - (intOf i).toNat)
      case atStart => exact ⟨0, Nat.zero_le _, rfl, rfl, hown, hbel⟩
      case round =>
        obtain ⟨k, hk, rfl, hv, hown1, hbel1⟩ := hrel
        have d0 := cell_later hbel1 h0
        have d1 := cell_later hbel1 h1
        have hA1 := hA.later hbel1
        have hB1 := hB.later hbel1
        have hk3 : k = 0 ∨ k = 1 ∨ k = 2 := by omega
        rcases hk3 with rfl | rfl | rfl
        · obtain rfl : _ = Value.slice (some ⟨w.heap.size, 0, none⟩) 0 cap := hv
          clear h0 h1
          go_wp2_with (first | (at_builtin; refine wpList_append_fits _ rfl (.tmp 31) (.tmp 32) 26 rfl w.heap.size 74 i0 4 Try.underlying26 hi hz1 w.heap.size 0 cap [] rfl hown1 ⟨b1, o1, none⟩ n c1 (avs A) rfl (by rw [avs_length, HA.out]) (avs_cells hA1) (avs_one A) (by omega) ?_; intro w2 hown2 hg2) | fail)
          go_roundw
          case rel => exact ⟨1, by omega, by go_num, by simp [ccN], by simpa [ccN, ccL] using hown2, hbel1.grown hg2 hbel1.size (fun k hk => by cases hk; exact Nat.le_refl _)⟩
          case measure => simp [intOf]
        · obtain rfl : _ = Value.slice (some ⟨w.heap.size, 0, none⟩) n cap := hv
          clear h0 h1
          go_wp2_with (first | (at_builtin; refine wpList_append_fits _ rfl (.tmp 31) (.tmp 32) 26 rfl w.heap.size 74 i0 4 Try.underlying26 hi hz1 w.heap.size n cap (avs A) rfl hown1 ⟨b2, o2, none⟩ m c2 (avs B) rfl (by rw [avs_length, HB.out]) (avs_cells hB1) (avs_one B) (by omega) ?_; intro w2 hown2 hg2) | fail)
          go_roundw
          case rel => exact ⟨2, by omega, by go_num, by simp [ccN], by simpa [ccN, ccL, avs_append] using hown2, hbel1.grown hg2 hbel1.size (fun k hk => by cases hk; exact Nat.le_refl _)⟩
          case measure => simp [intOf]
        · obtain rfl : _ = Value.slice (some ⟨w.heap.size, 0, none⟩) (n + m) cap := hv
          clear h0 h1
          go_wp2
          go_ret
          have e : (A ++ B).length = n + m := by rw [List.length_append, HA.out, HB.out]
          exact ⟨_, _, by rw [e]; rfl, by rw [e]; exact hcap, avs_own (by rw [e]; omega) hown1, hbel1⟩
end Go.Proofs.Qxb6600044a
