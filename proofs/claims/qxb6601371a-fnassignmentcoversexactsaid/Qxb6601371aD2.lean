import Derived.Test.Qxb6601371aD1
import Derived.Laws.StructEq
namespace Go.Proofs.Qxb6601371a
open Go.RowKit
set_option linter.unusedVariables false

/-- The values of choices and of a read. -/
def chV (f0 f1 f2 f3 f4 : Int) (b5 : Bool) : Array Value := #[.int .i64 f0, .int .i64 f1, .int .i64 f2, .int .i64 f3, .int .i64 f4, .bool b5]
def rdV (r0 : Bool) (r1 r2 r3 : Int) (r4 : Bool) (r5 : Int) : Array Value := #[.bool r0, .int .i64 r1, .int .i64 r2, .int .i64 r3, .bool r4, .int .i64 r5]

def DomOk (L : Int) (n : Nat) (z : Nat → Int) (n3 : Nat) (f0 f1 : Int) : Prop := Shape L n z ∧ 0 ≤ f0 ∧ (f0 < f1 → f1 ≤ L ∧ f1 ≤ n3)

set_option maxHeartbeats 1000000 in
theorem dom21 (L : Int) (a a3 : Option Addr) (n c n3 c3 : Nat) (z : Nat → Int) (f0 f1 f2 f3 f4 : Int) (b5 : Bool) (w : World) (hz : Arr w a n fun i => .int .i64 (z i)) (h3 : n3 ≤ 9223372036854775807) :
    Calls Try.prog 21 #[.int .i64 L, .slice a n c, .slice a3 n3 c3, .agg #[.int .i64 f0, .int .i64 f1, .int .i64 f2, .int .i64 f3, .int .i64 f4, .bool b5]] w fun e w' => ∃ b : Bool, e = .returned (.bool b) ∧ (b = true → DomOk L n z n3 f0 f1) ∧ Below w.heap.size w w' := by
  have C := hid (fun (W : World) (hW : Below w.heap.size w W) => wf9 L a n c z W (hz.later hW))
  clear hz
  have B1 := hid ((Below.refl w.heap.size w).alloc (Nat.le_refl _) (.cells #[.int .i64 f0, .int .i64 f1, .int .i64 f2, .int .i64 f3, .int .i64 f4, .bool b5] 29))
  go_enter Try.func21, Try.ntmps21
  go_wp2_with fail
  refine (C.out _ B1.out).mono ?_
  rintro e w1 ⟨b, rfl, hb, m, rfl⟩
  cases b
  · clear hb
    go_wp2_with fail
    go_ret
    exact ⟨_, rfl, fun h => (by cases h), belowN B1.out _⟩
  have HS := hid (hb rfl)
  clear hb
  by_cases h0 : f0 < 0
  · go_wp2_with fail
    go_ret
    exact ⟨_, rfl, fun h => (by cases h), belowN B1.out _⟩
  have h0' : 0 ≤ f0 := by omega
  by_cases h1 : f0 < f1
  · by_cases h2 : L < f1
    · have d1 : decide (f0 < f1) = true := by simp [h1]
      have d2 : decide (L < f1) = true := by simp [h2]
      go_wp2_with fail
      go_ret
      exact ⟨_, rfl, fun h => (by cases h), belowN B1.out _⟩
    · by_cases h4 : (n3 : Int) < f1
      · have d1 : decide (f0 < f1) = true := by simp [h1]
        have d2 : decide (L < f1) = false := by simp; omega
        have d3 : decide ((n3 : Int) < f1) = true := by simp [h4]
        go_wp2_with fail
        go_ret
        exact ⟨_, rfl, fun h => (by cases h), belowN B1.out _⟩
      · have d1 : decide (f0 < f1) = true := by simp [h1]
        have d2 : decide (L < f1) = false := by simp; omega
        have d3 : decide ((n3 : Int) < f1) = false := by simp; omega
        have D := hid (show DomOk L n z n3 f0 f1 from ⟨HS.out, h0', fun _ => ⟨by omega, by omega⟩⟩)
        go_wp2_with fail
        go_ret
        exact ⟨_, rfl, fun _ => D.out, belowN B1.out _⟩
  · have d1 : decide (f0 < f1) = false := by simp; omega
    have D := hid (show DomOk L n z n3 f0 f1 from ⟨HS.out, h0', fun h => absurd h h1⟩)
    go_wp2_with fail
    go_ret
    exact ⟨_, rfl, fun _ => D.out, belowN B1.out _⟩

theorem choices17 (f0 f1 f2 f3 f4 : Int) (b5 : Bool) (w : World) : Calls Try.prog 17 #[.int .i64 f0, .int .i64 f1, .int .i64 f2, .int .i64 f3, .int .i64 f4, .bool b5] w fun e w' => e = .returned (.agg #[.int .i64 f0, .int .i64 f1, .int .i64 f2, .int .i64 f3, .int .i64 f4, .bool b5]) ∧ w' = w.alloc (.cells #[.int .i64 f0, .int .i64 f1, .int .i64 f2, .int .i64 f3, .int .i64 f4, .bool b5] 36) := by
  go_enter Try.func17, Try.ntmps17
  go_wp2
  exact bodyPost_ret (v := .agg #[.int .i64 f0, .int .i64 f1, .int .i64 f2, .int .i64 f3, .int .i64 f4, .bool b5]) (by simp [results, Try.results17, go_sem]) rfl ⟨rfl, rfl⟩

theorem read28 (r0 : Bool) (r1 r2 r3 : Int) (r4 : Bool) (r5 : Int) (w : World) : Calls Try.prog 28 #[.bool r0, .int .i64 r1, .int .i64 r2, .int .i64 r3, .bool r4, .int .i64 r5] w fun e w' => e = .returned (.agg #[.bool r0, .int .i64 r1, .int .i64 r2, .int .i64 r3, .bool r4, .int .i64 r5]) ∧ w' = w.alloc (.cells #[.bool r0, .int .i64 r1, .int .i64 r2, .int .i64 r3, .bool r4, .int .i64 r5] 75) := by
  go_enter Try.func28, Try.ntmps28
  go_wp2
  exact bodyPost_ret (v := .agg #[.bool r0, .int .i64 r1, .int .i64 r2, .int .i64 r3, .bool r4, .int .i64 r5]) (by simp [results, Try.results28, go_sem]) rfl ⟨rfl, rfl⟩

set_option maxHeartbeats 1000000 in
theorem with31 (A B C : Int) (r0 : Bool) (r1 r2 r3 : Int) (r4 : Bool) (w : World) : Calls Try.prog 31 #[.agg #[.int .i64 A, .int .i64 B, .int .i64 C], .agg #[.bool r0, .int .i64 r1, .int .i64 r2, .int .i64 r3, .bool r4]] w fun e w' => e = .returned (.agg #[.int .i64 A, .int .i64 (if B < r2 then r2 else B), .int .i64 (if r3 < C then r3 else C)]) ∧ Below w.heap.size w w' := by
  have b3 : ∀ o1 o2 o3, Below w.heap.size w (((w.alloc o1).alloc o2).alloc o3) := fun o1 o2 o3 => (((Below.refl _ _).alloc (Nat.le_refl _) o1).alloc (by simp) o2).alloc (by simp; omega) o3
  have B3 := hid b3
  clear b3
  go_enter Try.func31, Try.ntmps31
  go_wp2
  all_goals first | exact bodyPost_ret (v := .agg #[.int .i64 A, .int .i64 r2, .int .i64 r3]) (by simp [results, Try.results31, go_sem]) rfl ⟨rfl, B3.out _ _ _⟩ | exact bodyPost_ret (v := .agg #[.int .i64 A, .int .i64 r2, .int .i64 C]) (by simp [results, Try.results31, go_sem]) rfl ⟨rfl, B3.out _ _ _⟩ | exact bodyPost_ret (v := .agg #[.int .i64 A, .int .i64 B, .int .i64 r3]) (by simp [results, Try.results31, go_sem]) rfl ⟨rfl, B3.out _ _ _⟩ | exact bodyPost_ret (v := .agg #[.int .i64 A, .int .i64 B, .int .i64 C]) (by simp [results, Try.results31, go_sem]) rfl ⟨rfl, B3.out _ _ _⟩

theorem stood61 : Try.prog.stoodInHeld 61 = false := by kernel_rfl
theorem fields61 : Try.prog.underlying 61 = some (.struct (Try.prog.fieldsOf 61)) := by kernel_rfl
theorem eql61 (a b c d e f : Int) (w : World) : (binOp .eql 61 (.agg #[.int .i64 a, .int .i64 b, .int .i64 c]) (.agg #[.int .i64 d, .int .i64 e, .int .i64 f])).run Try.prog w = .ok (.bool (a == d && (b == e && c == f))) w := by
  rw [run_eql_struct, show (10000 : Nat) = 9998 + 1 + 1 from rfl, run_equalIn_agg w 9999 61 _ _ fields61 stood61]
  simp only [Program.fieldsOf, Try.underlying61]
  simp [Op.eqFields, go_sem]
  by_cases h1 : a = d <;> by_cases h2 : b = e <;> by_cases h3 : c = f <;> simp [h1, h2, h3]
end Go.Proofs.Qxb6601371a
