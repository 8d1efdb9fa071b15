import Derived.Test.Qxb6600159aD1
namespace Go.Proofs.Qxb6600159a
open Go.RowKit
set_option linter.unusedVariables false

theorem Try.info21 : (Try.prog.info? 21).map (fun i => (i.zero, i.size, i.bytes)) = some (some (.int .i32 0), 1, 4) := by kernel_rfl
theorem Try.info26 : (Try.prog.info? 26).map (fun i => (i.zero, i.size, i.bytes)) = some (some (.slice none 0 0), 1, 24) := by kernel_rfl

/-- What a copy of numbers returns. -/
def RetIF (w : World) (q : List Int) (e : Ending) (w' : World) : Prop := ∃ v, e = .returned v ∧ IntsF w.heap.size w' v q ∧ Below w.heap.size w w'

set_option maxHeartbeats 1000000 in
theorem clone25 (a : Option Addr) (c n : Nat) (q : List Int) (w : World) (h : Arr w a n (fun j => .int .i32 (q.getD j 0))) (hl : q.length = n) (hn : n ≤ 1048576) :
    Calls Try.prog 25 #[.slice a n c] w (RetIF w q) := by
  have HL := hid hl
  clear hl
  have qe : ∀ (w : World) (a : Option Addr) (n c n' c' : Nat), (binOp .eql 26 (.slice a n c) (.slice none n' c')).run Try.prog w = .ok (.bool a.isNone) w := fun w a n c n' c' => Lib.run_eql_slice_nil w _ _ a n c n' c' Try.underlying26
  rcases a with _ | p
  · obtain rfl := h.nil
    go_enter Try.func25, Try.ntmps25
    go_wp2
    go_ret
    exact ⟨_, rfl, ⟨none, 0, by rw [HL.out]; rfl, by rw [HL.out]; omega, by rw [HL.out]; exact ⟨by omega, .inl rfl⟩, AddrFrom.none _⟩, Below.refl _ _⟩
  · have hmk := run_make_row' (P := Try.prog) 26 21 (.int .i32 0) _ Try.underlying26 Try.info21 rfl .i64 .i64 n (by omega) (by omega)
    go_enter Try.func25, Try.ntmps25
    go_wp2
    clear hmk qe
    go_loopw [4] (fun i wr => ∃ k : Nat, k ≤ n ∧ i = .int .i64 k ∧ wr.rowIs w.heap.size 21 n (fun j => if j < k then .int .i32 (q.getD j 0) else .int .i32 0) ∧ Below w.heap.size w wr) (fun i _ => n - (intOf i).toNat)
    case atStart => exact ⟨0, Nat.zero_le _, rfl, (World.rowIs_made w _ n 21).congr (fun i hi => by simp), (Below.refl _ _).alloc (Nat.le_refl _) _⟩
    case round =>
      obtain ⟨k, hk, rfl, hrow, hbel⟩ := hrel
      by_cases hlt : k < n
      · obtain ⟨b, off, hp, hcell⟩ := h.at hlt
        simp only [Option.some.injEq] at hp
        subst hp
        have hcw := cell_later hbel hcell
        have hfr := hrow.frozen k
        have hold := hrow.cell hlt
        have hnew := hrow.set k (.int .i32 (q.getD k 0))
        have hbel' := hbel.setCell (p := ⟨w.heap.size, k, none⟩) (Nat.le_refl _) (.int .i32 (q.getD k 0))
        have HR := hid (hnew.congr (g := fun j => if j < k + 1 then .int .i32 (q.getD j 0) else .int .i32 0) (fun i hi => step_if i k (fun j => .int .i32 (q.getD j 0)) _))
        have HB := hid hbel'
        generalize q.getD k 0 = x at hcw HR HB
        simp only [Nat.lt_irrefl, if_false] at hold
        clear hcell hrow hnew hbel'
        go_wp2
        go_roundw
        case rel => exact ⟨k + 1, by omega, by go_num, HR.out, HB.out⟩
        case measure => simp [intOf]; omega
      · go_wp2
        go_ret
        have e : k = n := by omega
        subst e
        refine ⟨_, rfl, ⟨some ⟨w.heap.size, 0, none⟩, k, by rw [HL.out]; rfl, by rw [HL.out]; omega, ?_, AddrFrom.some (Nat.le_refl _)⟩, hbel⟩
        rw [HL.out]
        exact Arr.ofRow (hrow.congr fun i hi => by simp [hi]) (by omega)

/-- What a copy of lists returns. -/
def RetLs (w : World) (n : Nat) (Q : Nat → List Int) (e : Ending) (w' : World) : Prop :=
  ∃ a' c' V', e = .returned (.slice a' n c') ∧ Ls w' a' n V' Q ∧ Below w.heap.size w w'

def vSet (V : Nat → Value) (k : Nat) (v : Value) (j : Nat) : Value := if j = k then v else V j

set_option maxHeartbeats 1000000 in
theorem clone11 (a : Option Addr) (n c : Nat) (V : Nat → Value) (Q : Nat → List Int) (w : World) (h : Ls w a n V Q) (hs : sumL Q n ≤ 1048576) (hn : n ≤ 1048576) :
    Calls Try.prog 11 #[.slice a n c] w (RetLs w n Q) := by
  have qe : ∀ (w : World) (a : Option Addr) (n c n' c' : Nat), (binOp .eql 22 (.slice a n c) (.slice none n' c')).run Try.prog w = .ok (.bool a.isNone) w := fun w a n c n' c' => Lib.run_eql_slice_nil w _ _ a n c n' c' Try.underlying22
  rcases a with _ | p
  · obtain rfl := h.1.nil
    go_enter Try.func11, Try.ntmps11
    go_wp2
    go_ret
    exact ⟨none, 0, V, rfl, ⟨⟨by omega, .inl rfl⟩, fun i hi => by omega⟩, Below.refl _ _⟩
  · have hmk := run_make_row' (P := Try.prog) 22 26 (.slice none 0 0) _ Try.underlying22 Try.info26 rfl .i64 .i64 n (by omega) (by omega)
    go_enter Try.func11, Try.ntmps11
    go_wp2
    clear hmk qe
    go_loopw [4] (fun i wr => ∃ (k : Nat) (V' : Nat → Value), k ≤ n ∧ i = .int .i64 k ∧ wr.rowIs w.heap.size 26 n (fun j => if j < k then V' j else .slice none 0 0) ∧ Hid (∀ j, j < k → IntsF (w.heap.size + 1) wr (V' j) (Q j)) ∧ Below w.heap.size w wr) (fun i _ => n - (intOf i).toNat)
    case atStart => exact ⟨0, V, Nat.zero_le _, rfl, (World.rowIs_made w _ n 26).congr (fun i hi => by simp), hid (fun j hj => by omega), (Below.refl _ _).alloc (Nat.le_refl _) _⟩
    case round =>
      obtain ⟨k, V', hk, rfl, hrow, HE, hbel⟩ := hrel
      by_cases hlt : k < n
      · obtain ⟨b, off, a', c', hp, hc, _, _, hsk, hA⟩ := (h.later hbel).at hlt
        simp only [Option.some.injEq] at hp
        subst hp
        have hli : (k : Int) < (n : Int) := by omega
        have C := hid (clone25 a' c' (Q k).length (Q k) wr hA rfl (by have := sumL_le Q hlt; omega))
        have HR := hid hrow
        have HB := hid hbel
        have hws := hbel.size
        have hrl := hrow.lt
        generalize (Q k).length = l at hc hsk C
        clear hA hrow hbel
        go_wp2_with fail
        refine C.out.mono ?_
        rintro e w3 ⟨v, rfl, hv, hb3⟩
        obtain ⟨va, vc, ve, _⟩ := id hv
        obtain ⟨vl, hvl⟩ : ∃ vl, vl = (Q k).length := ⟨_, rfl⟩
        rw [← hvl] at ve
        clear hvl
        subst ve
        obtain ⟨v, hve⟩ : ∃ v, v = Value.slice va vl vc := ⟨_, rfl⟩
        rw [← hve] at hv
        have r1 := HR.out.of_block (hb3.block _ hrl)
        have t1 := r1.frozen k
        have t2 := r1.cell hlt
        simp only [Nat.lt_irrefl, if_false] at t2
        have R2 : Hid ((w3.setCell ⟨w.heap.size, k, none⟩ v).rowIs w.heap.size 26 n (fun j => if j < k + 1 then vSet V' k v j else .slice none 0 0)) := hid ((r1.set k v).congr fun j hj => by
          by_cases e : j = k
          · subst e; simp [vSet]
          · rw [if_neg e]
            by_cases e2 : j < k
            · rw [if_pos e2, if_pos (by omega)]; simp [vSet, e]
            · rw [if_neg e2, if_neg (by omega)])
        have E2 : Hid (∀ j, j < k + 1 → IntsF (w.heap.size + 1) (w3.setCell ⟨w.heap.size, k, none⟩ v) (vSet V' k v j) (Q j)) := hid (fun j hj => by
          by_cases e : j = k
          · subst e
            have h1 : vSet V' j v j = v := by simp [vSet]
            rw [h1]
            exact (hv.mono (show w.heap.size + 1 ≤ wr.heap.size by omega)).setCell (p := ⟨w.heap.size, j, none⟩) v
          · have h1 : vSet V' k v j = V' j := by simp [vSet, e]
            rw [h1]
            exact ((HE.out j (by omega)).later hb3).setCell (p := ⟨w.heap.size, k, none⟩) v)
        have B2 : Hid (Below w.heap.size w (w3.setCell ⟨w.heap.size, k, none⟩ v)) := hid ((HB.out.trans (hb3.mono hws)).setCell (p := ⟨w.heap.size, k, none⟩) (Nat.le_refl _) v)
        clear r1 hv hb3 HE HR HB C
        rw [hve] at R2 E2 B2
        clear hve
        go_wp2_with fail
        go_roundw
        case rel => exact ⟨k + 1, _, by omega, by go_num, R2.out, E2, B2.out⟩
        case measure => simp [intOf]; omega
      · go_wp2
        go_ret
        have e : k = n := by omega
        subst e
        exact ⟨_, _, V', rfl, ⟨Arr.ofRow (hrow.congr fun i hi => by simp [hi]) (by omega), fun i hi => (HE.out i hi).mono (by omega)⟩, hbel⟩
end Go.Proofs.Qxb6600159a
