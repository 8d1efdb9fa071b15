import Derived.Test.Qxb6600044aE1
import Derived.Laws.StructEq
namespace Go.Proofs.Qxb6600044a
open Go.RowKit
set_option linter.unusedVariables false

theorem stood69 : Try.prog.stoodInHeld 69 = false := by kernel_rfl
theorem fields69 : Try.prog.underlying 69 = some (.struct (Try.prog.fieldsOf 69)) := by kernel_rfl
theorem guard69 : Try.prog.eqGuardType Try.prog.depth 69 = false := by kernel_rfl

/-- Two arcs, cell by cell. -/
def arcEq (x y : Arc) : Bool := x.f == y.f && (x.t == y.t && (x.k == y.k && x.d == y.d))
theorem arcEq_iff (x y : Arc) : arcEq x y = true ↔ x = y := by
  cases x; cases y; simp [arcEq]

theorem eql69 (x y : Arc) (w : World) : (binOp .eql 69 (.agg #[.int .i32 x.f, .int .i32 x.t, .int .i32 x.k, .int .i64 x.d]) (.agg #[.int .i32 y.f, .int .i32 y.t, .int .i32 y.k, .int .i64 y.d])).run Try.prog w = .ok (.bool (arcEq x y)) w := by
  rw [run_eql_struct, show (10000 : Nat) = 9998 + 1 + 1 from rfl, run_equalIn_agg w 9999 69 _ _ fields69 stood69]
  simp only [Program.fieldsOf, Try.underlying69]
  simp [Op.eqFields, go_sem]
  by_cases h1 : x.f = y.f <;> by_cases h2 : x.t = y.t <;> by_cases h3 : x.k = y.k <;> by_cases h4 : x.d = y.d <;> simp [arcEq, h1, h2, h3, h4]
theorem neq69 (x y : Arc) (w : World) : (binOp .neq 69 (.agg #[.int .i32 x.f, .int .i32 x.t, .int .i32 x.k, .int .i64 x.d]) (.agg #[.int .i32 y.f, .int .i32 y.t, .int .i32 y.k, .int .i64 y.d])).run Try.prog w = .ok (.bool (!arcEq x y)) w := by
  rw [run_neq_struct, show (10000 : Nat) = 9998 + 1 + 1 from rfl, run_equalIn_agg w 9999 69 _ _ fields69 stood69]
  simp only [Program.fieldsOf, Try.underlying69]
  simp [Op.eqFields, go_sem]
  by_cases h1 : x.f = y.f <;> by_cases h2 : x.t = y.t <;> by_cases h3 : x.k = y.k <;> by_cases h4 : x.d = y.d <;> simp [arcEq, h1, h2, h3, h4]

set_option maxHeartbeats 1000000 in
theorem same18 (a b : Option Addr) (c d n m : Nat) (xs ys : List Arc) (w : World) (hx : Arcs w a xs) (hy : Arcs w b ys) (hn : xs.length = n) (hm : ys.length = m) (hn1 : n ≤ 4096) (hm1 : m ≤ 4096) :
    Calls Try.prog 18 #[.slice a n c, .slice b m d] w (RetD w (xs = ys)) := by
  have HX := hid hn
  have HY := hid hm
  clear hn hm
  have q := neq69
  by_cases hnm : n = m
  · subst hnm
    go_enter Try.func18, Try.ntmps18
    go_wp2
    go_loopw [5] (fun i wr => ∃ k : Nat, k ≤ n ∧ i = .int .i64 k ∧ Hid (∀ j, j < k → arcAt xs j = arcAt ys j) ∧ ∃ q, wr = w.drewN q) (fun i _ => n - (intOf i).toNat)
    case atStart => exact ⟨0, Nat.zero_le _, rfl, hid (fun j hj => by omega), 0, rfl⟩
    case round =>
      obtain ⟨k, hk, rfl, HE, q, rfl⟩ := hrel
      by_cases hlt : k < n
      · obtain ⟨b1, o1, rfl, c0, c1, c2, c3⟩ := hx.at (k := k) (by rw [HX.out]; exact hlt)
        obtain ⟨b2, o2, rfl, d0, d1, d2, d3⟩ := hy.at (k := k) (by rw [HY.out]; exact hlt)
        have hli : (k : Int) < (n : Int) := by omega
        cases he : arcEq (arcAt xs k) (arcAt ys k)
        · have HN : Hid (¬ arcAt xs k = arcAt ys k) := hid (fun e => by rw [(arcEq_iff _ _).2 e] at he; cases he)
          go_wp2
          go_quiet (fail)
          go_wp2
          go_ret
          exact retDF (fun h => HN.out (by rw [h])) ⟨_, World.drewN_drewN _ _ _⟩
        · have HN := hid ((arcEq_iff _ _).1 he)
          go_wp2
          go_quiet (fail)
          go_wp2
          go_roundw
          case rel =>
            refine ⟨k + 1, by omega, by go_num, hid (fun j hj => ?_), _, rfl⟩
            by_cases e : j = k
            · subst e; exact HN.out
            · exact HE.out j (by omega)
          case measure => simp [intOf]; omega
      · go_wp2
        go_ret
        refine retDT ?_ ⟨_, rfl⟩
        apply List.ext_getElem?
        intro j
        by_cases hj : j < n
        · rw [arcAt_get (by rw [HX.out]; exact hj), arcAt_get (by rw [HY.out]; exact hj), HE.out j (by omega)]
        · rw [List.getElem?_eq_none (by rw [HX.out]; omega), List.getElem?_eq_none (by rw [HY.out]; omega)]
  · have hb : ((n : Int) != (m : Int)) = true := by rw [bne_iff_ne]; omega
    go_enter Try.func18, Try.ntmps18
    go_wp2
    go_ret
    exact retDF (fun h => hnm (by rw [← HX.out, ← HY.out, h])) ⟨0, rfl⟩
end Go.Proofs.Qxb6600044a
