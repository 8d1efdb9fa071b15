import Derived.Test.Qxb6600044aE7
namespace Go.Proofs.Qxb6600044a
open Go.RowKit Go.Maps
set_option linter.unusedVariables false

/-- The sources are numbers of 32 bits. -/
def FromsOk (cs : List Arc) : Prop := ∀ x ∈ cs, (Lit.int .i32 x.f).wf = true
/-- Where the sources of the first k arcs stand. -/
def InvG (F : Nat → Int) (g : Int → Option Nat) (k : Nat) : Prop := (∀ f p, g f = some p → p < k ∧ F p = f) ∧ (∀ q, q < k → g (F q) ≠ none) ∧ DistF F k
def sliceLen : Value → Nat
  | .slice _ n _ => n
  | _ => 0
def OutRel (w : World) (xs : List Arc) (v : Value) (wr : World) : Prop :=
  ∃ (a : Option Addr) (n c : Nat) (cs : List Arc), v = .slice a n c ∧ n ≤ c ∧ n ≤ 4096 ∧ Hid (cs.length = n) ∧ Arcs wr a cs ∧ Short xs cs ∧ FromsOk cs ∧ Below w.heap.size w wr
def InRel (w : World) (B n : Nat) (F : Nat → Int) (v4 v5 i : Value) (wr : World) : Prop :=
  ∃ (k : Nat) (g : Int → Option Nat), k ≤ n ∧ i = .int .i64 k ∧ v4 = .int .i64 (-1) ∧ v5 = .int .i64 (-1) ∧ OwnM wr B k g ∧ InvG F g k ∧ Below w.heap.size w wr
def RetEl (w : World) (xs : List Arc) (e : Ending) (w' : World) : Prop :=
  ∃ (a : Option Addr) (n c : Nat) (cs : List Arc), e = .returned (.slice a n c) ∧ n ≤ c ∧ n ≤ 4096 ∧ cs.length = n ∧ Arcs w' a cs ∧ Short xs cs ∧ FromsOk cs ∧ Dist cs ∧ Below w.heap.size w w'

theorem InvG.zero (F : Nat → Int) : InvG F (fun _ => none) 0 := ⟨fun f p h => (by cases h), fun q h => (by omega), fun p q h1 h2 => (by omega)⟩
theorem InvG.next {F : Nat → Int} {g : Int → Option Nat} {k : Nat} (h : InvG F g k) (hk : g (F k) = none) : InvG F (gPut g (F k) k) (k + 1) := by
  obtain ⟨h1, h2, h3⟩ := h
  refine ⟨fun f p hf => ?_, fun q hq => ?_, fun p q hp hq => ?_⟩
  · unfold gPut at hf
    split at hf
    · rename_i e
      cases hf
      exact ⟨by omega, e.symm⟩
    · have := h1 f p hf
      exact ⟨by omega, this.2⟩
  · unfold gPut
    split
    · simp
    · rename_i e
      exact h2 q (by
        have : q ≠ k := fun e' => e (by rw [e'])
        omega)
  · by_cases e : q = k
    · subst e
      intro e'
      exact h2 p hp (by rw [e']; exact hk)
    · exact h3 p q hp (by omega)

theorem Arcs.sub {w : World} {b off : Nat} {cs : List Arc} (h : Arcs w (some ⟨b, off, none⟩) cs) (p k : Nat) (hk : k ≤ cs.length) : Arcs w (some ⟨b, off + p * 4, none⟩) ((cs.take k).drop p) := by
  have hl : ((cs.take k).drop p).length = k - p := by simp; omega
  refine ⟨by have := h.1; rw [hl]; omega, .inr ⟨b, off + p * 4, rfl, fun i hi => ?_⟩⟩
  rw [hl] at hi
  have e := Arr.cell h (k := p * 4 + i) (by omega)
  rw [Nat.add_assoc, e]
  have e1 : (p * 4 + i) / 4 = p + i / 4 := by omega
  have e2 : (p * 4 + i) % 4 = i % 4 := by omega
  have e3 : arcAt ((cs.take k).drop p) (i / 4) = arcAt cs (p + i / 4) := by
    simp only [arcAt, List.getD_eq_getElem?_getD, List.getElem?_drop, List.getElem?_take]
    rw [if_pos (by omega)]
  show _ = some (arcCell (arcAt ((cs.take k).drop p) (i / 4)) (i % 4))
  rw [e1, e2, e3]

theorem Arcs.tail {w : World} {b off : Nat} {cs : List Arc} (h : Arcs w (some ⟨b, off, none⟩) cs) (p : Nat) : Arcs w (some ⟨b, off + p * 4, none⟩) (cs.drop p) := by
  have := h.sub p cs.length (Nat.le_refl _)
  rwa [List.take_length] at this
theorem Arcs.head {w : World} {b off : Nat} {cs : List Arc} (h : Arcs w (some ⟨b, off, none⟩) cs) (k : Nat) (hk : k ≤ cs.length) : Arcs w (some ⟨b, off, none⟩) (cs.take k) := by
  have := h.sub 0 k hk
  simpa using this

theorem FromsOk.inner {cs : List Arc} (h : FromsOk cs) (p k : Nat) : FromsOk ((cs.take k).drop p) := fun x hx => h x (List.mem_of_mem_take (List.mem_of_mem_drop hx))
theorem FromsOk.outer {cs : List Arc} (h : FromsOk cs) (p k : Nat) : FromsOk (cs.drop k ++ cs.take p) := fun x hx => by
  rcases List.mem_append.1 hx with h' | h'
  · exact h x (List.mem_of_mem_drop h')
  · exact h x (List.mem_of_mem_take h')
theorem FromsOk.at {cs : List Arc} (h : FromsOk cs) {k : Nat} (hk : k < cs.length) : (Lit.int .i32 (arcAt cs k).f).wf = true :=
  h _ (List.mem_of_getElem? (arcAt_get hk))

theorem below_same {B : Nat} {w W W' : World} (h : Below B w W) (e1 : W'.heap = W.heap) (e2 : W'.os = W.os) (e3 : W'.tape = W.tape) (e4 : W'.output = W.output) : Below B w W' :=
  ⟨e2.trans h.os, e3.trans h.tape, e4.trans h.output, by rw [e1]; exact h.size, fun k hk => by rw [e1]; exact h.block k hk⟩
theorem cell_heap {w W : World} (hW : W.heap = w.heap) (a : Addr) : W.cell? a = w.cell? a := by simp only [World.cell?, hW]
theorem arcs_heap {w W : World} {b o : Nat} {cs : List Arc} {ob : Obj} (h : Arcs w (some ⟨b, o, none⟩) cs) (hW : W.heap = (w.alloc ob).heap) : Arcs W (some ⟨b, o, none⟩) cs := by
  have h1 := h.later ((Below.refl _ w).alloc (Nat.le_refl _) ob)
  refine ⟨h1.1, ?_⟩
  have h2 := h1.2
  simpa [World.cell?, hW] using h2

set_option maxRecDepth 100000 in
set_option maxHeartbeats 1000000 in
theorem elementary42 (a : Option Addr) (n c : Nat) (xs : List Arc) (w : World) (hx : Arcs w a xs) (hn : xs.length = n) (hnc : n ≤ c) (hn4 : n ≤ 4096) (hf : FromsOk xs) :
    Calls Try.prog 42 #[.slice a n c] w (RetEl w xs) := by
  have HX := hid hn
  clear hn
  have hmm := make79
  go_enter Try.func42, Try.ntmps42
  go_wp2
  go_loopw [0, 3, 4, 5, 6, 7, 8, 9, 10, 16] (fun v _ _ _ _ _ _ _ _ _ wo => OutRel w xs v wo) (fun v _ _ _ _ _ _ _ _ _ _ => sliceLen v)
  case atStart => exact ⟨a, n, c, xs, rfl, hnc, hn4, HX, hx, Short.refl xs, hf, Below.refl _ _⟩
  case round =>
    rename World => wo
    obtain ⟨a', n', c', cs, rfl, hnc', hn4', HC, hcs, hsh, hfo, hbo⟩ := hrel
    clear hx hf hnc hn4 HX
    have HS := hid hsh
    have HF := hid hfo
    clear hsh hfo
    go_wp2
    go_loopw [4, 5, 6, 7, 8, 9, 16] (fun v4 v5 _ _ _ _ i wr => InRel wo wo.heap.size n' (fun j => (arcAt cs j).f) v4 v5 i wr) (fun _ _ _ _ _ _ i _ => n' - (intOf i).toNat)
    case atStart => exact ⟨0, _, Nat.zero_le _, rfl, rfl, rfl, OwnM.made _, InvG.zero _, (Below.refl _ _).alloc (Nat.le_refl _) _⟩
    case round =>
      obtain ⟨k, g, hk, rfl, rfl, rfl, hown, hinv, hbi⟩ := hrel
      have HI := hid hinv
      clear hinv
      by_cases hlt : k < n'
      · have hA := hcs.later hbi
        obtain ⟨b, off, rfl, c0, c1, c2, c3⟩ := hA.at (k := k) (by rw [HC.out]; exact hlt)
        have hli : (k : Int) < (n' : Int) := by omega
        have hwf := HF.out.at (k := k) (by rw [HC.out]; exact hlt)
        have HK := hid (arcAt_get (xs := cs) (p := k) (by rw [HC.out]; exact hlt))
        obtain ⟨x, hxk⟩ : ∃ x, x = arcAt cs k := ⟨_, rfl⟩
        rw [← hxk] at c0 c1 c2 c3 hwf HK
        have HX := hid hxk
        clear hxk
        have hown1 := hown.alloc (.cells #[.int .i32 x.f, .int .i32 x.t, .int .i32 x.k, .int .i64 x.d] 74)
        have hlk := hown1.look hwf
        cases hg : g x.f with
        | none =>
          rw [hg] at hlk
          obtain ⟨w2, hup, hown2, hgr⟩ := hown1.store (by omega) hwf k (by omega)
          have HG := hid hg
          clear hg
          go_wp2
          go_roundw
          case rel =>
            refine ⟨k + 1, _, by omega, by go_num, rfl, rfl, hown2, ?_, ?_⟩
            · rw [HX.out]
              exact HI.out.next (show g (arcAt cs k).f = none by rw [← HX.out]; exact HG.out)
            · exact (hbi.alloc hbi.size _).grown hgr (by simp; have := hbi.size; omega) (fun j hj => by cases hj; exact Nat.le_refl _)
          case measure => simp [intOf]; omega
        | some p =>
          rw [hg] at hlk
          have hp := HI.out.1 _ _ hg
          have hpk := hp.1
          have HP := hid hp.2
          have HPK := hid (arcAt_get (xs := cs) (p := p) (by rw [HC.out]; omega))
          clear hg hp
          have hbA := hbi.alloc hbi.size (.cells #[.int .i32 x.f, .int .i32 x.t, .int .i32 x.k, .int .i64 x.d] 74)
          have hkl : k ≤ cs.length := by rw [HC.out]; omega
          have hli1 : ((cs.take k).drop p).length = k - p := by simp; omega
          have HE := hid (show (arcAt cs p).f = x.f from HP.out)
          have R1 := hid ((rw46 _ (c' - p) (k - p) _ _ ((hcs.later hbA).sub p k hkl) hli1 (by omega)))
          have HL1 := hid hli1
          clear hli1
          have hbw := hid (hbo.trans (hbA.mono hbo.size))
          have hbh := hid hbA
          clear hbA
          go_wp2_with fail
          refine R1.out.mono ?_
          rintro e w2 ⟨bb, rfl, hb2⟩
          have hb3 := hbh.out.trans (hb2.mono hbh.out.size)
          have hb4 := hid (hbw.out.trans (hb2.mono hbw.out.size))
          have hc2 := hid (hcs.later hb3)
          have HB3 := hid hb3
          clear hb3 hb2 hbw hbh R1 c0 c1 c2 c3 hlk hown1 hown hA hcs hwf
          cases bb
          · go_wp2_with fail
            go_roundw
            case rel => exact ⟨_, k - p, c' - p, _, rfl, by omega, by omega, HL1, hc2.out.sub p k hkl, HS.out.inner hpk HPK.out HK.out HE.out, HF.out.inner p k, hb4.out⟩
            case measure => simp [sliceLen]; omega
          · have C := hid (fun (W : World) (hW : W.heap = (w2.alloc (.cells #[.slice (some ⟨b, off + k * 4, none⟩) (n' - k) (c' - k), .slice (some ⟨b, off, none⟩) p c'] 26)).heap) => concat47 w2.heap.size b (off + k * 4) b off (n' - k) p (c' - k) c' (cs.drop k) (cs.take p) W ((cell_heap hW _).trans (by simp)) ((cell_heap hW _).trans (by simp)) (arcs_heap (hc2.out.tail k) hW) (arcs_heap (hc2.out.head p (by rw [HC.out]; omega)) hW) (by simp [HC.out]) (by simp [HC.out]; omega) (by omega) (by omega))
            have HLo := hid (show (cs.drop k ++ cs.take p).length = n' - k + p by simp [HC.out]; omega)
            have T1 := hid (fun o => HB3.out.alloc HB3.out.size o)
            have HSo := hid (HS.out.outer hpk HPK.out HK.out HE.out)
            have HFo := hid (HF.out.outer p k)
            clear HS HF HL1 HPK HK HE HP HX HI
            have hck : ¬ c' = k := by omega
            generalize cs.drop k ++ cs.take p = D at C HLo HSo HFo
            have i1 : (0 : Int) ≤ (p : Int) := by omega
            have i2 : (p : Int) ≤ (c' : Int) := by omega
            have i3 : (k : Int) ≤ (n' : Int) := by omega
            have i4 : (0 : Int) ≤ (k : Int) := by omega
            go_wp2_with fail
            go_region_held3 (fun w' => Below wo.heap.size wo w') (first | exact below_same HB3.out rfl rfl rfl rfl | exact below_same (T1.out _) rfl rfl rfl rfl | assumption) (first | (go_at_call 47; refine (C.out _ (by rfl)).mono ?_; rintro e w3 ⟨a3, c3, rfl, hc3, hA3, hb3⟩; have hS3 := Below.trans (by assumption) (hb3.mono (Below.size (by assumption)))))
            all_goals
              go_wp2_with fail
              go_roundw
              case rel => exact ⟨a3, D.length, c3, D, rfl, hc3, by rw [HLo.out]; omega, hid rfl, hA3, HSo.out, HFo.out, hbo.trans (hS3.mono hbo.size)⟩
              case measure => simp [sliceLen, HLo.out]; omega
      · go_wp2
        go_ret
        have e : k = n' := by omega
        subst e
        refine ⟨_, _, _, cs, rfl, hnc', hn4', HC.out, hcs.later hbi, HS.out, HF.out, ?_, hbo.trans (hbi.mono hbo.size)⟩
        have := HI.out.2.2
        rw [← HC.out] at this
        exact (distF_iff cs).1 this
end Go.Proofs.Qxb6600044a
