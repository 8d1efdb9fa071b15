import Derived.Test.Qxb6600044aE4
import Derived.Lib.AppendZeros
import Derived.OwnWalk
namespace Go.Proofs.Qxb6600044a
open Go.RowKit
set_option linter.unusedVariables false

theorem alloc_at (w : World) (o : Obj) : (w.alloc o).drew.heap[w.heap.size]? = some o := by
  show (w.heap.push o)[w.heap.size]? = some o
  simp

/-- What slices.Grow of the nil slice returns. -/
def GrowPost (w : World) (n : Nat) (e : Ending) (w' : World) : Prop :=
  ∃ cap, e = .returned (.slice (some ⟨w.heap.size, 0, none⟩) 0 cap) ∧ n ≤ cap ∧ w'.ownsRow w.heap.size 74 4 (.slice (some ⟨w.heap.size, 0, none⟩) 0 cap) 0 [] ∧ Below w.heap.size w w' ∧ w.heap.size < w'.heap.size

set_option maxHeartbeats 1000000 in
theorem grow50 (n : Nat) (w : World) (h1 : 1 ≤ n) (hn : n ≤ 8192) :
    Calls Try.prog 50 #[.slice none 0 0, .int .i64 (n : Int)] w (GrowPost w n) := by
  obtain ⟨i0, hi, hz0, hz1, hz2⟩ := info_parts Try.info74
  have hr := Lib.run_append_nil_zeros (P := Try.prog) w 26 3 26 74 i0 _ .i64 .i64 Try.underlying26 Try.underlying3 hi hz0 n (by omega) (by rw [hz1]; decide) (by omega) (by rw [hz2]; omega)
  have hcm := grownCap_le_maxLen w n 0 74 (by unfold maxLen; omega)
  have hcg := grownCap_ge w n 0 74
  have HM := hid hcm
  have HG := hid hcg
  clear hcm hcg
  go_enter Try.func50, Try.ntmps50
  go_wp2_with (first | (at_builtin; refine Lib.wpList_append_run _ rfl _ _ _ _ rfl _ _ rfl rfl _ _ hr ?_) | fail)
  go_ret
  refine ⟨_, rfl, HG.out, ⟨rfl, .inr ⟨w.heap.size, _, _, rfl, Nat.le_refl _, alloc_at w _, Nat.zero_le _, HM.out, ?_, rfl⟩⟩, ((Below.refl _ _).alloc (Nat.le_refl _) _).drew, by simp⟩
  have := HG.out
  simp [size_zeroCells]
  omega

theorem addArc (b o i : Nat) : (⟨b, o, none⟩ : Addr).add i = ⟨b, o + i, none⟩ := by unfold Addr.add; split <;> simp_all

/-- The cells of arcs, one behind the other. -/
def avs : List Arc → List Value
  | [] => []
  | x :: xs => .int .i32 x.f :: .int .i32 x.t :: .int .i32 x.k :: .int .i64 x.d :: avs xs

theorem avs_length (xs : List Arc) : (avs xs).length = xs.length * 4 := by
  induction xs with
  | nil => rfl
  | cons x xs ih => simp [avs, ih]; omega

theorem avs_append (xs ys : List Arc) : avs (xs ++ ys) = avs xs ++ avs ys := by
  induction xs with
  | nil => rfl
  | cons x xs ih => simp [avs, ih]

theorem avs_get (xs : List Arc) : ∀ j, j < xs.length * 4 → (avs xs)[j]? = some (arcCell (arcAt xs (j / 4)) (j % 4)) := by
  induction xs with
  | nil => intro j hj; simp at hj
  | cons x xs ih =>
    intro j hj
    match j, hj with
    | 0, _ => simp [avs, arcCell, arcAt]
    | 1, _ => simp [avs, arcCell, arcAt]
    | 2, _ => simp [avs, arcCell, arcAt]
    | 3, _ => simp [avs, arcCell, arcAt]
    | i + 4, hj =>
      have h := ih i (by simp at hj; omega)
      have e1 : (i + 4) / 4 = i / 4 + 1 := by omega
      have e2 : (i + 4) % 4 = i % 4 := by omega
      have e3 : arcAt (x :: xs) (i / 4 + 1) = arcAt xs (i / 4) := by simp [arcAt]
      rw [e1, e2, e3, ← h]
      simp [avs]

theorem avs_one (xs : List Arc) : ∀ u ∈ avs xs, u.oneCell' = true := by
  induction xs with
  | nil => intro u hu; cases hu
  | cons x xs ih =>
    intro u hu
    simp only [avs, List.mem_cons] at hu
    rcases hu with rfl | rfl | rfl | rfl | hu
    · rfl
    · rfl
    · rfl
    · rfl
    · exact ih u hu

theorem avs_cells {w : World} {b o : Nat} {xs : List Arc} (h : Arcs w (some ⟨b, o, none⟩) xs) : ∀ j u, (avs xs)[j]? = some u → w.cell? ((⟨b, o, none⟩ : Addr).add j) = some u := by
  intro j u hu
  have hj : j < xs.length * 4 := by
    have := (List.getElem?_eq_some_iff.1 hu).1
    rwa [avs_length] at this
  rw [avs_get xs j hj] at hu
  rw [addArc, Arr.cell h hj, hu]

theorem avs_own {w : World} {base g cap n : Nat} {xs : List Arc} (hn : xs.length ≤ 1048576) (h : w.ownsRow base 74 4 (.slice (some ⟨g, 0, none⟩) n cap) n (avs xs)) : Arcs w (some ⟨g, 0, none⟩) xs := by
  refine ⟨by omega, .inr ⟨g, 0, rfl, fun i hi => ?_⟩⟩
  have := h.cells (g := g) rfl i _ (avs_get xs i hi)
  rwa [addArc] at this
end Go.Proofs.Qxb6600044a
