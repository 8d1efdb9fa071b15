import Derived.Test.Qxb6600159aD7
namespace Go.Proofs.Qxb6600159a
open Go.RowKit
set_option linter.unusedVariables false

theorem zz19 (w : World) (X T : Nat) (V : Nat → Value) (mv : Value) (Q : Nat → List Int) (h : Cand w X T V mv) (hT : T ≤ 1048576) (hQ : ∀ i, i < T → IntsB X w (V i) (Q i)) (hq : ∀ i, i < T → (Q i).length ≤ 1048576) (hn : Nonneg Q T) :
    Calls Try.prog 19 #[.pointer (some ⟨X, 0, none⟩)] w (NextPost w X T V mv Q) := by
  have C := hid (next41 w X T V mv Q h hT hQ hq hn)
  clear h hQ hq hn
  go_enter Try.func19, Try.ntmps19
  go_wp2_with fail
  refine C.out.mono ?_
  rintro e w' (⟨h1, rfl, h2⟩ | ⟨h1, rfl, h2⟩)
  · have H := hid h2
    have H1 := hid h1
    clear h1 h2
    go_wp2_with fail
    go_ret2
    exact .inl ⟨H1.out, rfl, H.out⟩
  · have H := hid h2
    have H1 := hid h1
    clear h1 h2
    go_wp2_with fail
    go_ret2
    exact .inr ⟨H1.out, rfl, H.out⟩

theorem st_mem (Q : Nat → List Int) (T : Nat) : ∀ s i x, x ∈ st Q T s i → x ∈ Q i := by
  intro s
  induction s with
  | zero => intro i x h; exact h
  | succ s ih =>
    intro i x h
    simp only [st, adv] at h
    split at h
    · exact ih i x (List.mem_of_mem_drop h)
    · exact ih i x h
theorem st_len (Q : Nat → List Int) (T : Nat) : ∀ s i, (st Q T s i).length ≤ (Q i).length := by
  intro s
  induction s with
  | zero => intro i; exact Nat.le_refl _
  | succ s ih => intro i; exact Nat.le_trans (adv_len _ _ i) (ih i)

/-- What drain gives. -/
def DrainPost (w : World) (X T : Nat) (Q : Nat → List Int) (lim : Nat) (e : Ending) (w' : World) : Prop :=
  ∃ v o, ∃ b : Bool, e = .returned (.tuple #[v, .bool b]) ∧ IntsF w.heap.size w' v o ∧ Below X w w' ∧ o.length ≤ lim + 1 ∧
    ((b = true ∧ ∃ s, s ≤ lim ∧ o = outs Q T s ∧ (∀ r, r < s → 0 ≤ leastN (st Q T r) T) ∧ leastN (st Q T s) T < 0) ∨ (b = false ∧ ∀ r, r ≤ lim → 0 ≤ leastN (st Q T r) T))

/-- The drain behind i rounds. -/
def DRel (w : World) (X T : Nat) (mv : Value) (Q : Nat → List Int) (lim : Nat) (v6 v7 : Value) (wr : World) : Prop :=
  ∃ (i : Nat) (V : Nat → Value), i ≤ lim + 1 ∧ v7 = .int .i64 i ∧ Cand wr X T V mv ∧ Hid (∀ k, k < T → IntsB X wr (V k) (st Q T i k)) ∧ Hid (OwnI w.heap.size wr v6 (outs Q T i)) ∧ Hid (∀ r, r < i → 0 ≤ leastN (st Q T r) T) ∧ Below X w wr

theorem drain_step {w wr w2 : World} {X T i : Nat} {mv v6 : Value} {Q : Nat → List Int} {V : Nat → Value} {o : Obj} (hX : X < w.heap.size) (hG : ∀ g, mv.ownBlock = some g → X < g ∧ g < w.heap.size)
    (hO : OwnI w.heap.size wr v6 (outs Q T i)) (hbel : Below X w wr) (hC : Cand wr X T V mv) (hT : Touch X mv wr w2) {V' : Nat → Value} (hC' : Cand w2 X T V' mv) (hI' : ∀ k, k < T → IntsB X w2 (V' k) (adv (st Q T i) (leastN (st Q T i) T) k)) :
    OwnI w.heap.size w2 v6 (outs Q T i) ∧ (∀ v' w3, w3.ownsRow w.heap.size 21 1 v' ((outs Q T i).length + 1) (iv (outs Q T i) ++ [.int .i32 (leastN (st Q T i) T)]) → (w2.alloc o).grownBy w3 v6.ownBlock →
      Cand w3 X T V' mv ∧ (∀ k, k < T → IntsB X w3 (V' k) (st Q T (i + 1) k)) ∧ OwnI w.heap.size w3 v' (outs Q T (i + 1)) ∧ Below X w w3) := by
  have hs1 := hbel.size
  have hs2 := hT.size
  have o2 : OwnI w.heap.size w2 v6 (outs Q T i) := own_block hO fun g hg => by
    have h1 := hO.lt g hg
    exact hT.block g h1.2 (by omega) (fun e => by have := hG g e; omega)
  have b2 : Below X w w2 := hbel.trans (hT.below hC)
  refine ⟨o2, fun v' w3 h3 hg => ?_⟩
  have hne : ∀ k, k < w.heap.size → some k ≠ v6.ownBlock := fun k hk e => by have := (hO.lt k e.symm).1; omega
  have hblk : ∀ k, k < w.heap.size → w3.heap[k]? = w2.heap[k]? := fun k hk => (hg.block k (by simp; omega) (hne k hk)).trans (Below.heap_alloc w2 o k (by omega))
  have b3 : Below X w2 w3 := ⟨hg.os, hg.tape, hg.output, by have := hg.size; simp at this; omega, fun k hk => hblk k (by omega)⟩
  refine ⟨hC'.kept (hblk X hX) (fun g hg' => hblk g (hG g hg').2), fun k hk => (hI' k hk).below b3, ?_, b2.trans b3⟩
  unfold OwnI
  simp only [outs]
  rw [List.length_append, iv_append]
  exact h3

set_option maxRecDepth 100000 in
set_option maxHeartbeats 2000000 in
theorem drain13 (w : World) (X T lim : Nat) (V : Nat → Value) (mv : Value) (Q : Nat → List Int) (h : Cand w X T V mv) (hT : T ≤ 1048576) (hlim : lim ≤ 1048576) (hQ : ∀ i, i < T → IntsB X w (V i) (Q i)) (hq : ∀ i, i < T → (Q i).length ≤ 1048576) (hn : Nonneg Q T) :
    Calls Try.prog 13 #[.pointer (some ⟨X, 0, none⟩), .int .i64 (lim : Int)] w (DrainPost w X T Q lim) := by
  obtain ⟨i0, hi, hz0, hz1, hz2⟩ := info_parts Try.info21
  have hX := h.lt
  have HG := hid (fun g (hg : mv.ownBlock = some g) => show X < g ∧ g < w.heap.size from ⟨by have := (h.more.lt g hg).1; omega, (h.more.lt g hg).2⟩)
  have HC := hid h
  have HQ := hid hQ
  have Hq := hid hq
  have Hn := hid hn
  clear h hQ hq hn
  go_enter Try.func13, Try.ntmps13
  go_wp2_with fail
  go_loopw [6, 7, 8, 9] (fun v6 v7 _ _ wr => DRel w X T mv Q lim v6 v7 wr) (fun _ v7 _ _ _ => lim + 1 - (intOf v7).toNat)
  case atStart => exact ⟨0, V, by omega, rfl, HC.out, HQ, hid (OwnI.nil _ _), hid (fun r hr => by omega), Below.refl _ _⟩
  case round =>
    obtain ⟨i, V1, hil, rfl, hC, HI, HO, HR, hbel⟩ := hrel
    by_cases hle : i ≤ lim
    · have C19 := hid (zz19 wr X T V1 mv (st Q T i) hC hT HI.out (fun k hk => Nat.le_trans (st_len Q T i k) (Hq.out k hk)) (fun k hk x hx => Hn.out k hk x (st_mem Q T i k x hx)))
      have HC1 := hid hC
      have HB := hid hbel
      have i1 : (i : Int) ≤ (lim : Int) := by omega
      clear hC hbel
      go_wp2_with fail
      refine C19.out.mono ?_
      rintro e w2 (⟨h1, rfl, h2, h3⟩ | ⟨h1, rfl, V', h2, h3, h4⟩)
      · have hs := h3.size
        have B2 := hid (HB.out.trans (h3.below HC1.out))
        have O2 : Hid (OwnI w.heap.size w2 _ (outs Q T i)) := hid (own_block HO.out fun g hg => by
          have h5 := HO.out.lt g hg
          exact h3.block g h5.2 (by omega) (fun e => by have := HG.out g e; omega))
        have H1 := hid h1
        clear h1 h2 h3 hs
        go_wp2_with fail
        go_ret2
        have hlo := outs_len Q T i
        exact ⟨_, outs Q T i, true, rfl, O2.out.ints (by omega), B2.out, by omega, .inl ⟨rfl, i, hle, rfl, HR.out, H1.out⟩⟩
      · obtain ⟨ho2, hstep⟩ := drain_step (o := .cells #[.int .i32 (leastN (st Q T i) T)] 21) hX HG.out HO.out HB.out HC1.out h4 h2 h3
        have O2 := hid ho2
        have ST := hid hstep
        have HR2 : Hid (∀ r, r < i + 1 → 0 ≤ leastN (st Q T r) T) := hid (fun r hr => by
          by_cases e : r = i
          · subst e; exact h1
          · exact HR.out r (by omega))
        have hs2 := h4.size
        have hs1 := HB.out.size
        have HLO := hid (outs_len Q T i)
        clear h1 h2 h3 h4 ho2 hstep
        have hlo : (outs Q T i).length ≤ 1048577 := by rw [HLO.out]; omega
        generalize leastN (st Q T i) T = L at ST
        go_wp2_with (first
          | (at_builtin; refine wpList_append_own _ rfl _ _ 26 rfl w.heap.size 21 i0 (.int .i32 0) 1 4 Try.underlying26 hi hz0 hz1 hz2 rfl (by decide) _ _ _ rfl (World.ownsRow.alloc O2.out _) ⟨w2.heap.size, 0, none⟩ 1 1 [.int .i32 L] rfl rfl (cell_one w2 _ _) (by intro u hu; simp at hu; subst hu; rfl) (by unfold maxLen; omega) (by omega) (by simp; omega) ?_)
          | fail)
        intro v' w3 hown hgrow _
        obtain ⟨g1, g2, g3, g4⟩ := ST.out v' w3 hown hgrow
        have G1 := hid g1
        have G2 := hid g2
        have G3 := hid g3
        have G4 := hid g4
        clear g1 g2 g3 g4 hown hgrow O2 ST
        go_wp2_with fail
        go_roundw
        case rel => exact ⟨i + 1, V', by omega, by go_num, G1.out, G2, G3, HR2, G4.out⟩
        case measure => simp [intOf]; omega
    · go_wp2_with fail
      go_ret2
      have hlo := outs_len Q T i
      exact ⟨_, outs Q T i, false, rfl, HO.out.ints (by omega), hbel, by omega, .inr ⟨rfl, fun r hr => HR.out r (by omega)⟩⟩
end Go.Proofs.Qxb6600159a
