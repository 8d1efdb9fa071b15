import Derived.Test.Qxb6600044aE2
namespace Go.Proofs.Qxb6600044a
open Go.RowKit Classical
set_option linter.unusedVariables false

theorem zz17 (a : Option Addr) (n c : Nat) (w : World) (h : n ≤ 9223372036854775807) :
    Calls Try.prog 17 #[.slice a n c] w (RetB w (n ≤ 1048576)) := by
  go_enter Try.func17, Try.ntmps17
  go_wp2
  all_goals go_ret
  · exact retF _ _
  · exact retT _ _ (by omega)

def arcBox (x : Arc) : Obj := .cells #[.int .i32 x.f, .int .i32 x.t, .int .i32 x.k, .int .i64 x.d] 69

/-- What countArc returns: it has made one block. -/
def CountPost (w : World) (x : Arc) (n : Nat) (e : Ending) (w' : World) : Prop := e = .returned (.int .i64 (n : Int)) ∧ ∃ m, w' = (w.alloc (arcBox x)).drewN m

theorem take_count (xs : List Arc) (x : Arc) (k : Nat) (hk : k < xs.length) : (xs.take (k + 1)).count x = (xs.take k).count x + (if arcEq (arcAt xs k) x = true then 1 else 0) := by
  rw [List.take_add_one, List.count_append, arcAt_get hk]
  congr 1
  simp only [Option.toList_some, List.count_singleton]
  by_cases e : arcAt xs k = x
  · rw [if_pos ((arcEq_iff _ _).2 e), if_pos (by simp [e])]
  · rw [if_neg (fun h => e ((arcEq_iff _ _).1 h)), if_neg (by simpa using e)]

set_option maxHeartbeats 1000000 in
theorem count44 (a : Option Addr) (c n : Nat) (xs : List Arc) (x : Arc) (w : World) (hx : Arcs w a xs) (hn : xs.length = n) (hn1 : n ≤ 4096) :
    Calls Try.prog 44 #[.slice a n c, .agg #[.int .i32 x.f, .int .i32 x.t, .int .i32 x.k, .int .i64 x.d]] w (CountPost w x (xs.count x)) := by
  have HX := hid hn
  clear hn
  have q := eql69
  have hx1 := Arcs.later hx ((Below.refl _ _).alloc (Nat.le_refl _) (arcBox x))
  have e0 : (w.alloc (arcBox x)).cell? ⟨w.heap.size, 0, none⟩ = some (.int .i32 x.f) := by simp [arcBox]
  have e1 : (w.alloc (arcBox x)).cell? ⟨w.heap.size, 1, none⟩ = some (.int .i32 x.t) := by simp [arcBox]
  have e2 : (w.alloc (arcBox x)).cell? ⟨w.heap.size, 2, none⟩ = some (.int .i32 x.k) := by simp [arcBox]
  have e3 : (w.alloc (arcBox x)).cell? ⟨w.heap.size, 3, none⟩ = some (.int .i64 x.d) := by simp [arcBox]
  go_enter Try.func44, Try.ntmps44
  go_wp2
  obtain ⟨w1, hw1⟩ : ∃ w1, w1 = w.alloc (arcBox x) := ⟨_, rfl⟩
  rw [← hw1] at hx1 e0 e1 e2 e3
  have hw2 := hw1
  unfold arcBox at hw2
  rw [← hw2]
  have HW := hid hw1
  clear hw1 hw2 hx
  go_loopw [5, 6] (fun s i wr => ∃ k : Nat, k ≤ n ∧ i = .int .i64 k ∧ s = .int .i64 ((xs.take k).count x : Nat) ∧ ∃ q, wr = w1.drewN q) (fun _ i _ => n - (intOf i).toNat)
  case atStart => exact ⟨0, Nat.zero_le _, rfl, by simp, 0, rfl⟩
  case round =>
    obtain ⟨k, hk, rfl, rfl, q', rfl⟩ := hrel
    have hc : (xs.take k).count x ≤ k := Nat.le_trans List.count_le_length (by simp; omega)
    by_cases hlt : k < n
    · obtain ⟨b, off, rfl, c0, c1, c2, c3⟩ := hx1.at (k := k) (by rw [HX.out]; exact hlt)
      have hli : (k : Int) < (n : Int) := by omega
      have hs := take_count xs x k (by rw [HX.out]; exact hlt)
      cases he : arcEq (arcAt xs k) x
      · rw [he] at hs
        have HS := hid hs
        clear hs
        go_wp2
        go_quiet (fail)
        go_wp2
        go_roundw
        case rel => exact ⟨k + 1, by omega, by go_num, by rw [HS.out]; simp, _, rfl⟩
        case measure => simp [intOf]; omega
      · rw [he] at hs
        have HS := hid hs
        clear hs
        go_wp2
        go_quiet (fail)
        go_wp2
        go_roundw
        case rel => exact ⟨k + 1, by omega, by go_num, by rw [HS.out]; go_num, _, rfl⟩
        case measure => simp [intOf]; omega
    · go_wp2
      go_ret
      obtain rfl : k = n := by omega
      have ht : xs.take k = xs := List.take_of_length_le (by rw [HX.out]; omega)
      refine ⟨?_, q', by rw [← HW.out]⟩
      show Ending.returned (.int .i64 ((xs.take k).count x : Nat)) = _
      rw [ht]

/-- Every arc of sub occurs in c at least as often as in sub. -/
def SubM (xs ys : List Arc) : Prop := ∀ i, i < xs.length → xs.count (arcAt xs i) ≤ ys.count (arcAt xs i)

/-- What subMultiset returns. -/
def RetL (w : World) (p : Prop) (e : Ending) (w' : World) : Prop := ∃ b : Bool, e = .returned (.bool b) ∧ (b = true ↔ p) ∧ Below w.heap.size w w'
theorem retLF {w w' : World} {p : Prop} (h : ¬ p) (hw : Below w.heap.size w w') : RetL w p (.returned (.bool false)) w' := ⟨false, rfl, ⟨fun h => (by cases h), fun k => absurd k h⟩, hw⟩
theorem retLT {w w' : World} {p : Prop} (h : p) (hw : Below w.heap.size w w') : RetL w p (.returned (.bool true)) w' := ⟨true, rfl, ⟨fun _ => h, fun _ => rfl⟩, hw⟩

theorem s5_alloc {w W : World} {B O : Nat} {v0 v1 v2 v3 : Value} (h : W.cell? ⟨B, O, none⟩ = some v0 ∧ W.cell? ⟨B, O + 1, none⟩ = some v1 ∧ W.cell? ⟨B, O + 2, none⟩ = some v2 ∧ W.cell? ⟨B, O + 3, none⟩ = some v3 ∧ Below w.heap.size w W) (o : Obj) : (W.alloc o).cell? ⟨B, O, none⟩ = some v0 ∧ (W.alloc o).cell? ⟨B, O + 1, none⟩ = some v1 ∧ (W.alloc o).cell? ⟨B, O + 2, none⟩ = some v2 ∧ (W.alloc o).cell? ⟨B, O + 3, none⟩ = some v3 ∧ Below w.heap.size w (W.alloc o) :=
  ⟨cell_alloc h.1 o, cell_alloc h.2.1 o, cell_alloc h.2.2.1 o, cell_alloc h.2.2.2.1 o, h.2.2.2.2.alloc h.2.2.2.2.size o⟩

theorem s5_same {w W W' : World} {B O : Nat} {v0 v1 v2 v3 : Value} (h : W.cell? ⟨B, O, none⟩ = some v0 ∧ W.cell? ⟨B, O + 1, none⟩ = some v1 ∧ W.cell? ⟨B, O + 2, none⟩ = some v2 ∧ W.cell? ⟨B, O + 3, none⟩ = some v3 ∧ Below w.heap.size w W) (e1 : W'.heap = W.heap) (e2 : W'.os = W.os) (e3 : W'.tape = W.tape) (e4 : W'.output = W.output) : W'.cell? ⟨B, O, none⟩ = some v0 ∧ W'.cell? ⟨B, O + 1, none⟩ = some v1 ∧ W'.cell? ⟨B, O + 2, none⟩ = some v2 ∧ W'.cell? ⟨B, O + 3, none⟩ = some v3 ∧ Below w.heap.size w W' := by
  have hc : ∀ a, W'.cell? a = W.cell? a := fun a => by simp only [World.cell?, e1]
  simp only [hc]
  exact ⟨h.1, h.2.1, h.2.2.1, h.2.2.2.1, ⟨e2.trans h.2.2.2.2.os, e3.trans h.2.2.2.2.tape, e4.trans h.2.2.2.2.output, by rw [e1]; exact h.2.2.2.2.size, fun k hk => by rw [e1]; exact h.2.2.2.2.block k hk⟩⟩

theorem s5_below {w W : World} {B O : Nat} {v0 v1 v2 v3 : Value} (h : W.cell? ⟨B, O, none⟩ = some v0 ∧ W.cell? ⟨B, O + 1, none⟩ = some v1 ∧ W.cell? ⟨B, O + 2, none⟩ = some v2 ∧ W.cell? ⟨B, O + 3, none⟩ = some v3 ∧ Below w.heap.size w W) : Below w.heap.size w W := h.2.2.2.2

set_option maxHeartbeats 1000000 in
theorem sub16 (a b : Option Addr) (c d n m : Nat) (xs ys : List Arc) (w : World) (hx : Arcs w a xs) (hy : Arcs w b ys) (hn : xs.length = n) (hm : ys.length = m) (hn1 : n ≤ 4096) (hm1 : m ≤ 4096) :
    Calls Try.prog 16 #[.slice a n c, .slice b m d] w (RetL w (SubM xs ys)) := by
  have HX := hid hn
  have HY := hid hm
  clear hn hm
  go_enter Try.func16, Try.ntmps16
  go_wp2
  go_loopw [5] (fun i wr => ∃ k : Nat, k ≤ n ∧ i = .int .i64 k ∧ Hid (∀ i, i < k → xs.count (arcAt xs i) ≤ ys.count (arcAt xs i)) ∧ Below w.heap.size w wr) (fun i _ => n - (intOf i).toNat)
  case atStart => exact ⟨0, Nat.zero_le _, rfl, hid (fun i hi => by omega), Below.refl _ _⟩
  case round =>
    obtain ⟨k, hk, rfl, HE, hbel⟩ := hrel
    by_cases hlt : k < n
    · obtain ⟨b1, o1, rfl, c0, c1, c2, c3⟩ := (hx.later hbel).at (k := k) (by rw [HX.out]; exact hlt)
      have hli : (k : Int) < (n : Int) := by omega
      have hc1 : xs.count (arcAt xs k) ≤ 4096 := Nat.le_trans List.count_le_length (by rw [HX.out]; exact hn1)
      have hc2 : ys.count (arcAt xs k) ≤ 4096 := Nat.le_trans List.count_le_length (by rw [HY.out]; exact hm1)
      have C1 := hid (fun (W : World) (hW : Below w.heap.size w W) => count44 _ c n xs (arcAt xs k) W (hx.later hW) HX.out hn1)
      have C2 := hid (fun (W : World) (hW : Below w.heap.size w W) => count44 _ d m ys (arcAt xs k) W (hy.later hW) HY.out hm1)
      have HQ := hid (fun (h : SubM xs ys) => h k (by rw [HX.out]; exact hlt))
      have HE' := hid (fun (h : xs.count (arcAt xs k) ≤ ys.count (arcAt xs k)) (i : Nat) (hi : i < k + 1) => show xs.count (arcAt xs i) ≤ ys.count (arcAt xs i) from by
        by_cases e : i = k
        · subst e; exact h
        · exact HE.out i (by omega))
      generalize arcAt xs k = x at c0 c1 c2 c3 hc1 hc2 C1 C2 HQ HE'
      generalize xs.count x = p at hc1 C1 HQ HE'
      generalize ys.count x = q at hc2 C2 HQ HE'
      have hS0 : wr.cell? ⟨b1, o1 + k * 4, none⟩ = some (.int .i32 x.f) ∧ wr.cell? ⟨b1, o1 + k * 4 + 1, none⟩ = some (.int .i32 x.t) ∧ wr.cell? ⟨b1, o1 + k * 4 + 2, none⟩ = some (.int .i32 x.k) ∧ wr.cell? ⟨b1, o1 + k * 4 + 3, none⟩ = some (.int .i64 x.d) ∧ Below w.heap.size w wr := ⟨c0, c1, c2, c3, hbel⟩
      have hS1 := s5_alloc hS0 (arcBox x)
      have hS2 := s5_alloc hS1 (arcBox x)
      have H0 := hid hS0
      have H1 := hid hS1
      have H2 := hid hS2
      clear hS0 hS1 hS2 hbel
      have hsplit : p ≤ q ∨ q < p := by omega
      rcases hsplit with hpq | hpq
      · go_wp2_with fail
        go_region_held3 (fun w' => w'.cell? ⟨b1, o1 + k * 4, none⟩ = some (.int .i32 x.f) ∧ w'.cell? ⟨b1, o1 + k * 4 + 1, none⟩ = some (.int .i32 x.t) ∧ w'.cell? ⟨b1, o1 + k * 4 + 2, none⟩ = some (.int .i32 x.k) ∧ w'.cell? ⟨b1, o1 + k * 4 + 3, none⟩ = some (.int .i64 x.d) ∧ Below w.heap.size w w') (first | exact s5_same H0.out rfl rfl rfl rfl | exact s5_same H1.out rfl rfl rfl rfl | exact s5_same H2.out rfl rfl rfl rfl) (first | (go_at_call_of 44 (Value.slice (some ⟨b1, o1, none⟩) n c); refine (C1.out _ (s5_below (by assumption))).mono ?_; rintro e w' ⟨rfl, mm, rfl⟩) | (go_at_call_of 44 (Value.slice b m d); refine (C2.out _ (s5_below (by assumption))).mono ?_; rintro e w' ⟨rfl, mm, rfl⟩))
        all_goals
          go_wp2_with fail
          go_roundw
          case rel => exact ⟨k + 1, by omega, by go_num, hid (HE'.out hpq), s5_below (s5_same H2.out rfl rfl rfl rfl)⟩
          case measure => simp [intOf]; omega
      · go_wp2_with fail
        go_region_held3 (fun w' => w'.cell? ⟨b1, o1 + k * 4, none⟩ = some (.int .i32 x.f) ∧ w'.cell? ⟨b1, o1 + k * 4 + 1, none⟩ = some (.int .i32 x.t) ∧ w'.cell? ⟨b1, o1 + k * 4 + 2, none⟩ = some (.int .i32 x.k) ∧ w'.cell? ⟨b1, o1 + k * 4 + 3, none⟩ = some (.int .i64 x.d) ∧ Below w.heap.size w w') (first | exact s5_same H0.out rfl rfl rfl rfl | exact s5_same H1.out rfl rfl rfl rfl | exact s5_same H2.out rfl rfl rfl rfl) (first | (go_at_call_of 44 (Value.slice (some ⟨b1, o1, none⟩) n c); refine (C1.out _ (s5_below (by assumption))).mono ?_; rintro e w' ⟨rfl, mm, rfl⟩) | (go_at_call_of 44 (Value.slice b m d); refine (C2.out _ (s5_below (by assumption))).mono ?_; rintro e w' ⟨rfl, mm, rfl⟩))
        all_goals
          go_wp2_with fail
          go_ret
          exact retLF (fun h => by have := HQ.out h; omega) (s5_below (s5_same H2.out rfl rfl rfl rfl))
    · go_wp2
      go_ret
      exact retLT (fun i hi => HE.out i (by rw [HX.out] at hi; omega)) hbel
end Go.Proofs.Qxb6600044a
