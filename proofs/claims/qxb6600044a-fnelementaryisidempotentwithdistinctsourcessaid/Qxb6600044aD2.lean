import Derived.Test.Qxb6600044aD1
namespace Go.Proofs.Qxb6600044a
open Go.RowKit
set_option linter.unusedVariables false

theorem keep4 {w wr : World} {a0 a1 a2 a3 : Addr} {u0 u1 u2 u3 : Value} (hb : Below w.heap.size w wr) (h0 : w.cell? a0 = some u0) (h1 : w.cell? a1 = some u1) (h2 : w.cell? a2 = some u2) (h3 : w.cell? a3 = some u3) (o : Obj) (o0 o1 o2 o3 : Nat) (v0 v1 v2 v3 : Value) (W : World)
    (e : W.heap = (((((wr.alloc o).setCell ⟨w.heap.size, o0, none⟩ v0).setCell ⟨w.heap.size, o1, none⟩ v1).setCell ⟨w.heap.size, o2, none⟩ v2).setCell ⟨w.heap.size, o3, none⟩ v3).heap) :
    W.cell? a0 = some u0 ∧ W.cell? a1 = some u1 ∧ W.cell? a2 = some u2 ∧ W.cell? a3 = some u3 := by
  have hB := below4 (hb.alloc hb.size o) (Nat.le_refl _) o0 o1 o2 o3 v0 v1 v2 v3
  have hc : ∀ a, W.cell? a = (((((wr.alloc o).setCell ⟨w.heap.size, o0, none⟩ v0).setCell ⟨w.heap.size, o1, none⟩ v1).setCell ⟨w.heap.size, o2, none⟩ v2).setCell ⟨w.heap.size, o3, none⟩ v3).cell? a := fun a => by simp only [World.cell?, e]
  simp only [hc]
  exact ⟨cell_later hB h0, cell_later hB h1, cell_later hB h2, cell_later hB h3⟩

set_option maxHeartbeats 1000000 in
theorem newArc43 (f t k d : Int) (w : World) :
    Calls Try.prog 43 #[.int .i32 f, .int .i32 t, .int .i32 k, .int .i64 d] w fun e w' => e = .returned (.agg #[.int .i32 f, .int .i32 t, .int .i32 k, .int .i64 d]) ∧ w' = w.alloc (.cells #[.int .i32 f, .int .i32 t, .int .i32 k, .int .i64 d] 74) := by
  go_enter Try.func43, Try.ntmps43
  go_wp2
  exact bodyPost_ret (v := .agg #[.int .i32 f, .int .i32 t, .int .i32 k, .int .i64 d]) (by simp [results, Try.results43, go_sem]) rfl ⟨rfl, rfl⟩

set_option maxHeartbeats 1000000 in
theorem arcField38 (f t k d : Int) (w : World) :
    Calls Try.prog 38 #[.agg #[.int .i32 f, .int .i32 t, .int .i32 k, .int .i64 d]] w fun e w' => e = .returned (.int .i32 f) ∧ w' = w.alloc (.cells #[.int .i32 f, .int .i32 t, .int .i32 k, .int .i64 d] 74) := by
  go_enter Try.func38, Try.ntmps38
  go_wp2
  go_ret
  exact ⟨rfl, rfl⟩

set_option maxHeartbeats 1000000 in
theorem arcField39 (f t k d : Int) (w : World) :
    Calls Try.prog 39 #[.agg #[.int .i32 f, .int .i32 t, .int .i32 k, .int .i64 d]] w fun e w' => e = .returned (.int .i32 t) ∧ w' = w.alloc (.cells #[.int .i32 f, .int .i32 t, .int .i32 k, .int .i64 d] 74) := by
  go_enter Try.func39, Try.ntmps39
  go_wp2
  go_ret
  exact ⟨rfl, rfl⟩

set_option maxHeartbeats 1000000 in
theorem arcField40 (f t k d : Int) (w : World) :
    Calls Try.prog 40 #[.agg #[.int .i32 f, .int .i32 t, .int .i32 k, .int .i64 d]] w fun e w' => e = .returned (.int .i32 k) ∧ w' = w.alloc (.cells #[.int .i32 f, .int .i32 t, .int .i32 k, .int .i64 d] 74) := by
  go_enter Try.func40, Try.ntmps40
  go_wp2
  go_ret
  exact ⟨rfl, rfl⟩

set_option maxHeartbeats 1000000 in
theorem arcField41 (f t k d : Int) (w : World) :
    Calls Try.prog 41 #[.agg #[.int .i32 f, .int .i32 t, .int .i32 k, .int .i64 d]] w fun e w' => e = .returned (.int .i64 d) ∧ w' = w.alloc (.cells #[.int .i32 f, .int .i32 t, .int .i32 k, .int .i64 d] 74) := by
  go_enter Try.func41, Try.ntmps41
  go_wp2
  go_ret
  exact ⟨rfl, rfl⟩

set_option maxHeartbeats 4000000 in
theorem toZZ14 (a : Option Addr) (c : Nat) (xs : List Arc) (w : World) (h : Arcs w a xs) (hn : xs.length ≤ 4096) :
    Calls Try.prog 14 #[.slice a xs.length c] w (RetArcs w xs) := by
  have q : ∀ (w : World) (a : Option Addr) (n c n' c' : Nat), (binOp .eql 22 (.slice a n c) (.slice none n' c')).run Try.prog w = .ok (.bool a.isNone) w := fun w a n c n' c' => Lib.run_eql_slice_nil w _ _ a n c n' c' Try.underlying22
  obtain ⟨n, hnn⟩ : ∃ n, n = xs.length := ⟨_, rfl⟩
  rcases a with _ | p
  · have h0 : xs.length = 0 := by have := Arr.nil h; omega
    rw [h0]
    go_enter Try.func14, Try.ntmps14
    go_wp2
    go_ret
    refine ⟨none, 0, by rw [h0]; rfl, by omega, ⟨by omega, .inl (by omega)⟩, Below.refl _ _⟩
  · have hmk := make26 n (by omega)
    rw [← hnn]
    have HN := hid hnn
    have hn' : n ≤ 4096 := by omega
    clear hnn
    go_enter Try.func14, Try.ntmps14
    go_wp2
    clear hmk q
    go_loopw [4] (fun i wr => ∃ k : Nat, k ≤ n ∧ i = .int .i64 k ∧ wr.rowIs w.heap.size 74 (n * 4) (rowF xs k) ∧ Below w.heap.size w wr) (fun i _ => n - (intOf i).toNat)
    case atStart => exact ⟨0, Nat.zero_le _, rfl, row_made w 74 n xs, (Below.refl _ _).alloc (Nat.le_refl _) _⟩
    case round =>
      obtain ⟨k, hk, rfl, hrow, hbel⟩ := hrel
      by_cases hlt : k < n
      · obtain ⟨b, off, hp, hc0, hc1, hc2, hc3⟩ := h.at (k := k) (by rw [← HN.out]; exact hlt)
        simp only [Option.some.injEq] at hp
        subst hp
        have hbne : ¬ b = w.heap.size := by have := World.block_lt_of_cell? _ _ hc0; simp only at this; omega
        have d0 := cell_later hbel hc0
        have d1 := cell_later hbel hc1
        have d2 := cell_later hbel hc2
        have d3 := cell_later hbel hc3
        have hki : (k : Int) < (n : Int) := by omega
        have k0 := hrow.cell (i := k * 4) (by omega)
        have k1 := hrow.cell (i := k * 4 + 1) (by omega)
        have k2 := hrow.cell (i := k * 4 + 2) (by omega)
        have k3 := hrow.cell (i := k * 4 + 3) (by omega)
        have m0 := fun o => cell_alloc k0 o
        have m1 := fun o => cell_alloc k1 o
        have m2 := fun o => cell_alloc k2 o
        have m3 := fun o => cell_alloc k3 o
        have g0 := fun o => frozen_alloc k0 (hrow.frozen (k * 4)) o
        have g1 := fun o => frozen_alloc k1 (hrow.frozen (k * 4 + 1)) o
        have g2 := fun o => frozen_alloc k2 (hrow.frozen (k * 4 + 2)) o
        have g3 := fun o => frozen_alloc k3 (hrow.frozen (k * 4 + 3)) o
        have hst := hid (fun o => row_step (hrow.alloc o) hlt rfl)
        have KEEP := hid (fun o v0 v1 v2 v3 W e => keep4 hbel hc0 hc1 hc2 hc3 o (k * 4) (k * 4 + 1) (k * 4 + 2) (k * 4 + 3) v0 v1 v2 v3 W e)
        clear hc0 hc1 hc2 hc3 hrow k0 k1 k2 k3
        generalize arcAt xs k = x at d0 d1 d2 d3 hst KEEP
        have T : ∀ (o : Obj) (u0 u1 u2 u3 : Value) , (fun w' : World => w'.cell? ⟨b, off + k * 4, none⟩ = some (.int .i32 x.f) ∧ w'.cell? ⟨b, off + k * 4 + 1, none⟩ = some (.int .i32 x.t) ∧ w'.cell? ⟨b, off + k * 4 + 2, none⟩ = some (.int .i32 x.k) ∧ w'.cell? ⟨b, off + k * 4 + 3, none⟩ = some (.int .i64 x.d)) (((((wr.alloc o).setCell ⟨w.heap.size, k * 4, none⟩ u0).setCell ⟨w.heap.size, k * 4 + 1, none⟩ u1).setCell ⟨w.heap.size, k * 4 + 2, none⟩ u2).setCell ⟨w.heap.size, k * 4 + 3, none⟩ u3).drew := by
          intro o u0 u1 u2 u3
          exact KEEP.out _ _ _ _ _ _ rfl
        go_wp2_with fail
        go_region_held3 (fun w' => w'.cell? ⟨b, off + k * 4, none⟩ = some (.int .i32 x.f) ∧ w'.cell? ⟨b, off + k * 4 + 1, none⟩ = some (.int .i32 x.t) ∧ w'.cell? ⟨b, off + k * 4 + 2, none⟩ = some (.int .i32 x.k) ∧ w'.cell? ⟨b, off + k * 4 + 3, none⟩ = some (.int .i64 x.d)) (go_keep) (first | (go_at_call 43; refine (newArc43 _ _ _ _ _).mono ?_; rintro e w' ⟨rfl, rfl⟩))
        all_goals
          go_wp2_with fail
          go_roundw
          case rel => exact ⟨k + 1, by omega, by go_num, hst.out _, (below4 (hbel.alloc hbel.size _) (Nat.le_refl _) _ _ _ _ _ _ _ _).drew⟩
          case measure => simp [intOf]; omega
      · go_wp2
        go_ret
        obtain rfl : k = n := by omega
        have e := HN.out
        subst e
        exact ⟨_, _, rfl, Nat.le_refl _, row_done hrow (by omega), hbel⟩
end Go.Proofs.Qxb6600044a
