import Derived.Test.Qxb6600044aD2
namespace Go.Proofs.Qxb6600044a
open Go.RowKit
set_option linter.unusedVariables false

set_option maxHeartbeats 4000000 in
theorem fromZZ12 (a : Option Addr) (c : Nat) (xs : List Arc) (w : World) (h : Arcs w a xs) (hn : xs.length ≤ 4096) :
    Calls Try.prog 12 #[.slice a xs.length c] w (RetArcs w xs) := by
  have q : ∀ (w : World) (a : Option Addr) (n c n' c' : Nat), (binOp .eql 26 (.slice a n c) (.slice none n' c')).run Try.prog w = .ok (.bool a.isNone) w := fun w a n c n' c' => Lib.run_eql_slice_nil w _ _ a n c n' c' Try.underlying26
  obtain ⟨n, hnn⟩ : ∃ n, n = xs.length := ⟨_, rfl⟩
  rcases a with _ | p
  · have h0 : xs.length = 0 := by have := Arr.nil h; omega
    rw [h0]
    go_enter Try.func12, Try.ntmps12
    go_wp2
    go_ret
    refine ⟨none, 0, by rw [h0]; rfl, by omega, ⟨by omega, .inl (by omega)⟩, Below.refl _ _⟩
  · have hmk := make22 n (by omega)
    rw [← hnn]
    have HN := hid hnn
    have hn' : n ≤ 4096 := by omega
    clear hnn
    go_enter Try.func12, Try.ntmps12
    go_wp2
    clear hmk q
    go_loopw [4] (fun i wr => ∃ k : Nat, k ≤ n ∧ i = .int .i64 k ∧ wr.rowIs w.heap.size 69 (n * 4) (rowF xs k) ∧ Below w.heap.size w wr) (fun i _ => n - (intOf i).toNat)
    case atStart => exact ⟨0, Nat.zero_le _, rfl, row_made w 69 n xs, (Below.refl _ _).alloc (Nat.le_refl _) _⟩
    case round =>
      obtain ⟨k, hk, rfl, hrow, hbel⟩ := hrel
      by_cases hlt : k < n
      · obtain ⟨b, off, hp, hc0, hc1, hc2, hc3⟩ := h.at (k := k) (by rw [← HN.out]; exact hlt)
        simp only [Option.some.injEq] at hp
        subst hp
        have hbne : ¬ b = w.heap.size := by have := World.block_lt_of_cell? _ _ hc0; simp only at this; omega
        have d0 := cell_later hbel hc0
        have d1 := cell_later hbel hc1
        have d2 := cell_later hbel hc2
        have d3 := cell_later hbel hc3
        have hki : (k : Int) < (n : Int) := by omega
        have k0 := hrow.cell (i := k * 4) (by omega)
        have k1 := hrow.cell (i := k * 4 + 1) (by omega)
        have k2 := hrow.cell (i := k * 4 + 2) (by omega)
        have k3 := hrow.cell (i := k * 4 + 3) (by omega)
        have m0 := fun o1 o2 o3 o4 => cell_alloc (cell_alloc (cell_alloc (cell_alloc k0 o1) o2) o3) o4
        have m1 := fun o1 o2 o3 o4 => cell_alloc (cell_alloc (cell_alloc (cell_alloc k1 o1) o2) o3) o4
        have m2 := fun o1 o2 o3 o4 => cell_alloc (cell_alloc (cell_alloc (cell_alloc k2 o1) o2) o3) o4
        have m3 := fun o1 o2 o3 o4 => cell_alloc (cell_alloc (cell_alloc (cell_alloc k3 o1) o2) o3) o4
        have g0 := fun o1 o2 o3 o4 => frozen_alloc (cell_alloc (cell_alloc (cell_alloc k0 o1) o2) o3) (frozen_alloc (cell_alloc (cell_alloc k0 o1) o2) (frozen_alloc (cell_alloc k0 o1) (frozen_alloc k0 (hrow.frozen (k * 4)) o1) o2) o3) o4
        have g1 := fun o1 o2 o3 o4 => frozen_alloc (cell_alloc (cell_alloc (cell_alloc k1 o1) o2) o3) (frozen_alloc (cell_alloc (cell_alloc k1 o1) o2) (frozen_alloc (cell_alloc k1 o1) (frozen_alloc k1 (hrow.frozen (k * 4 + 1)) o1) o2) o3) o4
        have g2 := fun o1 o2 o3 o4 => frozen_alloc (cell_alloc (cell_alloc (cell_alloc k2 o1) o2) o3) (frozen_alloc (cell_alloc (cell_alloc k2 o1) o2) (frozen_alloc (cell_alloc k2 o1) (frozen_alloc k2 (hrow.frozen (k * 4 + 2)) o1) o2) o3) o4
        have g3 := fun o1 o2 o3 o4 => frozen_alloc (cell_alloc (cell_alloc (cell_alloc k3 o1) o2) o3) (frozen_alloc (cell_alloc (cell_alloc k3 o1) o2) (frozen_alloc (cell_alloc k3 o1) (frozen_alloc k3 (hrow.frozen (k * 4 + 3)) o1) o2) o3) o4
        have hst := hid (fun o1 o2 o3 o4 => row_step ((((hrow.alloc o1).alloc o2).alloc o3).alloc o4) hlt rfl)
        have HB4 := hid (fun o1 o2 o3 o4 => (((hbel.alloc hbel.size o1).alloc (by simp; exact Nat.le_succ_of_le hbel.size) o2).alloc (by simp; exact Nat.le_succ_of_le (Nat.le_succ_of_le hbel.size)) o3).alloc (by simp; exact Nat.le_succ_of_le (Nat.le_succ_of_le (Nat.le_succ_of_le hbel.size))) o4)
        have KEEP := hid (fun o1 o2 o3 o4 v0 v1 v2 v3 W e => keep4 (((hbel.alloc hbel.size o1).alloc (by simp; exact Nat.le_succ_of_le hbel.size) o2).alloc (by simp; exact Nat.le_succ_of_le (Nat.le_succ_of_le hbel.size)) o3) hc0 hc1 hc2 hc3 o4 (k * 4) (k * 4 + 1) (k * 4 + 2) (k * 4 + 3) v0 v1 v2 v3 W e)
        clear hc0 hc1 hc2 hc3 hrow k0 k1 k2 k3
        generalize arcAt xs k = x at d0 d1 d2 d3 hst KEEP
        have T : ∀ (o1 o2 o3 o4 : Obj) (u0 u1 u2 u3 : Value) , (fun w' : World => w'.cell? ⟨b, off + k * 4, none⟩ = some (.int .i32 x.f) ∧ w'.cell? ⟨b, off + k * 4 + 1, none⟩ = some (.int .i32 x.t) ∧ w'.cell? ⟨b, off + k * 4 + 2, none⟩ = some (.int .i32 x.k) ∧ w'.cell? ⟨b, off + k * 4 + 3, none⟩ = some (.int .i64 x.d)) ((((((((wr.alloc o1).alloc o2).alloc o3).alloc o4).setCell ⟨w.heap.size, k * 4, none⟩ u0).setCell ⟨w.heap.size, k * 4 + 1, none⟩ u1).setCell ⟨w.heap.size, k * 4 + 2, none⟩ u2).setCell ⟨w.heap.size, k * 4 + 3, none⟩ u3).drew := by
          intro o1 o2 o3 o4 u0 u1 u2 u3
          exact KEEP.out _ _ _ _ _ _ _ _ _ rfl
        have T1 : ∀ (o1 : Obj), (fun w' : World => w'.cell? ⟨b, off + k * 4, none⟩ = some (.int .i32 x.f) ∧ w'.cell? ⟨b, off + k * 4 + 1, none⟩ = some (.int .i32 x.t) ∧ w'.cell? ⟨b, off + k * 4 + 2, none⟩ = some (.int .i32 x.k) ∧ w'.cell? ⟨b, off + k * 4 + 3, none⟩ = some (.int .i64 x.d)) (wr.alloc o1).drew := fun o1 => ⟨(cell_alloc d0 o1), (cell_alloc d1 o1), (cell_alloc d2 o1), (cell_alloc d3 o1)⟩
        have T2 : ∀ (o1 o2 : Obj), (fun w' : World => w'.cell? ⟨b, off + k * 4, none⟩ = some (.int .i32 x.f) ∧ w'.cell? ⟨b, off + k * 4 + 1, none⟩ = some (.int .i32 x.t) ∧ w'.cell? ⟨b, off + k * 4 + 2, none⟩ = some (.int .i32 x.k) ∧ w'.cell? ⟨b, off + k * 4 + 3, none⟩ = some (.int .i64 x.d)) ((wr.alloc o1).alloc o2).drew := fun o1 o2 => ⟨(cell_alloc (cell_alloc d0 o1) o2), (cell_alloc (cell_alloc d1 o1) o2), (cell_alloc (cell_alloc d2 o1) o2), (cell_alloc (cell_alloc d3 o1) o2)⟩
        have T3 : ∀ (o1 o2 o3 : Obj), (fun w' : World => w'.cell? ⟨b, off + k * 4, none⟩ = some (.int .i32 x.f) ∧ w'.cell? ⟨b, off + k * 4 + 1, none⟩ = some (.int .i32 x.t) ∧ w'.cell? ⟨b, off + k * 4 + 2, none⟩ = some (.int .i32 x.k) ∧ w'.cell? ⟨b, off + k * 4 + 3, none⟩ = some (.int .i64 x.d)) (((wr.alloc o1).alloc o2).alloc o3).drew := fun o1 o2 o3 => ⟨(cell_alloc (cell_alloc (cell_alloc d0 o1) o2) o3), (cell_alloc (cell_alloc (cell_alloc d1 o1) o2) o3), (cell_alloc (cell_alloc (cell_alloc d2 o1) o2) o3), (cell_alloc (cell_alloc (cell_alloc d3 o1) o2) o3)⟩
        have T4 : ∀ (o1 o2 o3 o4 : Obj), (fun w' : World => w'.cell? ⟨b, off + k * 4, none⟩ = some (.int .i32 x.f) ∧ w'.cell? ⟨b, off + k * 4 + 1, none⟩ = some (.int .i32 x.t) ∧ w'.cell? ⟨b, off + k * 4 + 2, none⟩ = some (.int .i32 x.k) ∧ w'.cell? ⟨b, off + k * 4 + 3, none⟩ = some (.int .i64 x.d)) ((((wr.alloc o1).alloc o2).alloc o3).alloc o4).drew := fun o1 o2 o3 o4 => ⟨(cell_alloc (cell_alloc (cell_alloc (cell_alloc d0 o1) o2) o3) o4), (cell_alloc (cell_alloc (cell_alloc (cell_alloc d1 o1) o2) o3) o4), (cell_alloc (cell_alloc (cell_alloc (cell_alloc d2 o1) o2) o3) o4), (cell_alloc (cell_alloc (cell_alloc (cell_alloc d3 o1) o2) o3) o4)⟩
        go_wp2_with fail
        go_region_held3 (fun w' => w'.cell? ⟨b, off + k * 4, none⟩ = some (.int .i32 x.f) ∧ w'.cell? ⟨b, off + k * 4 + 1, none⟩ = some (.int .i32 x.t) ∧ w'.cell? ⟨b, off + k * 4 + 2, none⟩ = some (.int .i32 x.k) ∧ w'.cell? ⟨b, off + k * 4 + 3, none⟩ = some (.int .i64 x.d)) (go_keep) (first | (go_at_call 38; refine (arcField38 _ _ _ _ _).mono ?_; rintro e w' ⟨rfl, rfl⟩) | (go_at_call 39; refine (arcField39 _ _ _ _ _).mono ?_; rintro e w' ⟨rfl, rfl⟩) | (go_at_call 40; refine (arcField40 _ _ _ _ _).mono ?_; rintro e w' ⟨rfl, rfl⟩) | (go_at_call 41; refine (arcField41 _ _ _ _ _).mono ?_; rintro e w' ⟨rfl, rfl⟩))
        all_goals
          go_wp2_with fail
          go_roundw
          case rel => exact ⟨k + 1, by omega, by go_num, hst.out _ _ _ _, (below4 (HB4.out _ _ _ _) (Nat.le_refl _) _ _ _ _ _ _ _ _).drew⟩
          case measure => simp [intOf]; omega
      · go_wp2
        go_ret
        obtain rfl : k = n := by omega
        have e := HN.out
        subst e
        exact ⟨_, _, rfl, Nat.le_refl _, row_done hrow (by omega), hbel⟩
end Go.Proofs.Qxb6600044a
