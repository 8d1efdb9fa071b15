import Derived.Test.Qxb6600044aRows
import Derived.WalkKit
import Derived.WalkSpells
import Derived.WalkLawsBesides
namespace Go.Proofs.Qxb6600044a
open Go.RowKit
set_option linter.unusedVariables false

/-- A slice value with address 'a' and length 'n' shows the cells 'f 0', .., 'f (n-1)' in the world. -/
def Arr (w : World) (a : Option Addr) (n : Nat) (f : Nat → Value) : Prop :=
  n ≤ 9223372036854775807 ∧ (n = 0 ∨ ∃ b off, a = some ⟨b, off, none⟩ ∧ ∀ i, i < n → w.cell? ⟨b, off + i, none⟩ = some (f i))

theorem Arr.at {w : World} {a : Option Addr} {n : Nat} {f : Nat → Value} (h : Arr w a n f) {k : Nat} (hk : k < n) :
    ∃ b off, a = some ⟨b, off, none⟩ ∧ w.cell? ⟨b, off + k, none⟩ = some (f k) := by
  rcases h.2 with h0 | ⟨b, off, rfl, hc⟩
  · omega
  · exact ⟨b, off, rfl, hc k hk⟩

/-- The call returns some bool; if it is true then p; the world stands. -/
def RetB (w : World) (p : Prop) (e : Ending) (w' : World) : Prop := ∃ b : Bool, e = .returned (.bool b) ∧ (b = true → p) ∧ w' = w
theorem retF (w : World) (p : Prop) : RetB w p (.returned (.bool false)) w := ⟨false, rfl, fun h => (by cases h), rfl⟩
theorem retT (w : World) (p : Prop) (h : p) : RetB w p (.returned (.bool true)) w := ⟨true, rfl, fun _ => h, rfl⟩

/-- The row of slices: cell i holds a slice of length L i. -/
def Rows2 (w : World) (a : Option Addr) (n : Nat) (L : Nat → Nat) : Prop :=
  ∃ (A : Nat → Option Addr) (C : Nat → Nat), Arr w a n fun i => .slice (A i) (L i) (C i)

--ZZ--

set_option maxHeartbeats 1000000 in
theorem zz32 (a0 a1 a2 a3 a5 a6 : Option Addr) (n0 n1 n2 n3 n5 n6 c0 c1 c2 c3 c5 c6 : Nat) (L : Nat → Nat) (j : Int) (w : World)
    (h0 : n0 ≤ 9223372036854775807) (h1 : n1 ≤ 9223372036854775807) (h2 : n2 ≤ 9223372036854775807) (h5 : n5 ≤ 9223372036854775807) (h6 : n6 ≤ 9223372036854775807)
    (hc : Rows2 w a3 n3 L) :
    Calls Try.prog 32 #[.slice a0 n0 c0, .slice a1 n1 c1, .slice a2 n2 c2, .slice a3 n3 c3, .int .i64 j, .slice a5 n5 c5, .slice a6 n6 c6] w
      (RetB w (n0 ≤ 1048576 ∧ n1 ≤ 1048576 ∧ n2 ≤ 1048576 ∧ n3 ≤ 1048576 ∧ n5 ≤ 1048576 ∧ n6 ≤ 1048576 ∧ ∀ i, i < n3 → L i ≤ 1048576)) := by
  obtain ⟨A, C, hc⟩ := hc
  have h3 := hc.1
  go_enter Try.func32, Try.ntmps32
  go_wp2
  iterate 7 (go_ret; exact retF _ _)
  go_loop [15, 16] (fun z i => ∃ k : Nat, k ≤ n3 ∧ i = .int .i64 k ∧ (∃ t : Int, z = .int .i64 t) ∧ ∀ i, i < k → L i ≤ 1048576) (fun _ i => n3 - (intOf i).toNat)
  case atStart => exact ⟨0, Nat.zero_le _, rfl, ⟨_, rfl⟩, fun i hi => by omega⟩
  case round =>
    obtain ⟨k, hk, rfl, ⟨t, rfl⟩, hL⟩ := hrel
    have HL : Hid (∀ i, i < k → L i ≤ 1048576) := hL
    clear hL
    by_cases hlt : k < n3
    · obtain ⟨b3, o3, rfl, hcell⟩ := hc.at hlt
      go_wp2
      · go_ret; exact retF _ _
      · go_ret; exact retF _ _
      · go_round
        case rel =>
          refine ⟨k + 1, by omega, by go_num, ⟨_, rfl⟩, fun i hi => ?_⟩
          by_cases e : i = k
          · subst e; omega
          · exact HL.out i (by omega)
        case measure => simp [intOf]; omega
    · go_wp2
      all_goals go_ret
      iterate 4 (exact retF _ _)
      exact retT _ _ ⟨by omega, by omega, by omega, by omega, by omega, by omega, fun i hi => HL.out i (by omega)⟩

set_option maxHeartbeats 1000000 in
theorem zz36 (a0 a1 a2 a3 a5 a6 : Option Addr) (n0 n1 n2 n3 n5 n6 c0 c1 c2 c3 c5 c6 : Nat) (L : Nat → Nat) (j fl : Int) (sh : Bool) (iv cp : Int) (w : World)
    (h0 : n0 ≤ 9223372036854775807) (h1 : n1 ≤ 9223372036854775807) (h2 : n2 ≤ 9223372036854775807) (h5 : n5 ≤ 9223372036854775807) (h6 : n6 ≤ 9223372036854775807)
    (hc : Rows2 w a3 n3 L) :
    Calls Try.prog 36 #[.slice a0 n0 c0, .slice a1 n1 c1, .slice a2 n2 c2, .slice a3 n3 c3, .int .i64 j, .slice a5 n5 c5, .slice a6 n6 c6, .int .i64 fl, .bool sh, .int .i64 iv, .int .i64 cp] w
      (RetB w (n0 ≤ 1048576 ∧ n1 ≤ 1048576 ∧ n2 ≤ 1048576 ∧ n3 ≤ 1048576 ∧ n5 ≤ 1048576 ∧ n6 ≤ 1048576 ∧ ∀ i, i < n3 → L i ≤ 1048576)) := by
  obtain ⟨A, C, hc⟩ := hc
  have h3 := hc.1
  go_enter Try.func36, Try.ntmps36
  go_wp2
  iterate 7 (go_ret; exact retF _ _)
  go_loop [23, 24] (fun z i => ∃ k : Nat, k ≤ n3 ∧ i = .int .i64 k ∧ (∃ t : Int, z = .int .i64 t) ∧ ∀ i, i < k → L i ≤ 1048576) (fun _ i => n3 - (intOf i).toNat)
  case atStart => exact ⟨0, Nat.zero_le _, rfl, ⟨_, rfl⟩, fun i hi => by omega⟩
  case round =>
    obtain ⟨k, hk, rfl, ⟨t, rfl⟩, hL⟩ := hrel
    have HL : Hid (∀ i, i < k → L i ≤ 1048576) := hL
    clear hL
    by_cases hlt : k < n3
    · obtain ⟨b3, o3, rfl, hcell⟩ := hc.at hlt
      go_wp2
      · go_ret; exact retF _ _
      · go_ret; exact retF _ _
      · go_round
        case rel =>
          refine ⟨k + 1, by omega, by go_num, ⟨_, rfl⟩, fun i hi => ?_⟩
          by_cases e : i = k
          · subst e; omega
          · exact HL.out i (by omega)
        case measure => simp [intOf]; omega
    · go_wp2
      all_goals go_ret
      iterate 4 (exact retF _ _)
      exact retT _ _ ⟨by omega, by omega, by omega, by omega, by omega, by omega, fun i hi => HL.out i (by omega)⟩

/-- The call returns some integer within the bounds; the world stands. -/
def RetI (w : World) (lo hi : Int) (e : Ending) (w' : World) : Prop := ∃ t : Int, e = .returned (.int .i64 t) ∧ lo ≤ t ∧ t ≤ hi ∧ w' = w

set_option maxHeartbeats 1000000 in
theorem listsBytes20 (a : Option Addr) (n c : Nat) (L : Nat → Nat) (w : World) (hc : Rows2 w a n L) (hL : ∀ i, i < n → L i ≤ 1048576) :
    Calls Try.prog 20 #[.slice a n c] w (RetI w 0 100000000) := by
  obtain ⟨A, C, hc⟩ := hc
  have h3 := hc.1
  go_enter Try.func20, Try.ntmps20
  go_wp2
  go_loop [3, 4] (fun z i => ∃ k : Nat, k ≤ n ∧ i = .int .i64 k ∧ ∃ t : Int, z = .int .i64 t ∧ 0 ≤ t ∧ t ≤ 1048576) (fun _ i => n - (intOf i).toNat)
  case atStart => exact ⟨0, Nat.zero_le _, rfl, _, rfl, by omega, by omega⟩
  case round =>
    obtain ⟨k, hk, rfl, t, rfl, ht0, ht1⟩ := hrel
    by_cases hlt : k < n
    · obtain ⟨b, o, rfl, hcell⟩ := hc.at hlt
      have hl := hL k hlt
      clear hL
      go_wp2
      · go_ret; exact ⟨_, rfl, by omega, by omega, rfl⟩
      · go_round
        case rel => exact ⟨k + 1, by omega, by go_num, _, rfl, by omega, by omega⟩
        case measure => simp [intOf]; omega
    · clear hL
      go_wp2
      go_ret
      exact ⟨_, rfl, by omega, by omega, rfl⟩

set_option maxHeartbeats 1000000 in
theorem scriptLen21 (a0 a1 a2 a3 : Option Addr) (n0 n1 n2 n3 c0 c1 c2 c3 : Nat) (w : World)
    (h0 : n0 ≤ 65536) (h1 : n1 ≤ 65536) (h2 : n2 ≤ 65536) (h3 : n3 ≤ 65536) :
    Calls Try.prog 21 #[.slice a0 n0 c0, .slice a1 n1 c1, .slice a2 n2 c2, .slice a3 n3 c3] w
      fun e w' => (∃ n : Nat, e = .returned (.int .i64 (n : Int)) ∧ n ≤ n0 ∧ n ≤ n1 ∧ n ≤ n2 ∧ n ≤ n3) ∧ w' = w := by
  go_enter Try.func21, Try.ntmps21
  go_wp2
  all_goals go_ret
  all_goals first
    | exact ⟨⟨n0, rfl, by omega, by omega, by omega, by omega⟩, rfl⟩
    | exact ⟨⟨n1, rfl, by omega, by omega, by omega, by omega⟩, rfl⟩
    | exact ⟨⟨n2, rfl, by omega, by omega, by omega, by omega⟩, rfl⟩
    | exact ⟨⟨n3, rfl, by omega, by omega, by omega, by omega⟩, rfl⟩

/-- The two bytes of a key's name. -/
def keyStr (k : Int) : ByteArray := strOfNums [107, 48 + k % 4]

theorem conv35 (k : Int) (w : World) :
    (convert 30 9 (.slice (some ⟨w.heap.size, 0, none⟩) 2 2)).run Try.prog (w.alloc (.cells #[.int .u8 107, .int .u8 (48 + k % 4)] 5)) =
      .ok (.string (keyStr k)) (w.alloc (.cells #[.int .u8 107, .int .u8 (48 + k % 4)] 5)) := by
  refine run_convert_bytes_arg (P := Try.prog) _ 30 5 Try.underlying30 Try.underlying5 w.heap.size 0 2 2 [107, 48 + k % 4] rfl ?_ 9 Try.underlying9
  intro i hi
  match i, hi with
  | 0, _ => simp
  | 1, _ => simp

set_option maxHeartbeats 1000000 in
theorem keyName35 (k : Int) (h0 : 0 ≤ k) (h1 : k ≤ 255) (w : World) :
    Calls Try.prog 35 #[.int .u8 k] w fun e w' => e = .returned (.string (keyStr k)) ∧ w' = w.alloc (.cells #[.int .u8 107, .int .u8 (48 + k % 4)] 5) := by
  have hcv := conv35 k w
  go_enter Try.func35, Try.ntmps35
  go_wp2
  go_ret
  exact ⟨rfl, rfl⟩
end Go.Proofs.Qxb6600044a
