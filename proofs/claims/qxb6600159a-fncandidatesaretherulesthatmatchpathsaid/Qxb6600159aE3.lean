import Derived.Test.Qxb6600159aE2
namespace Go.Proofs.Qxb6600159a
open Go.RowKit Go.Maps
set_option linter.unusedVariables false

/-- A map that came with its keys and lists, below X. -/
structure KMap (w : World) (X : Nat) (mo : Option Nat) (S : Nat → ByteArray) (V : Nat → Value) (Q : Nat → List Int) (n : Nat) : Prop where
  is : MapIs w mo (lastV S V n)
  lt : ∀ b, mo = some b → b < X
  ints : ∀ i, i < n → IntsB X w (V i) (Q i)
  asc : ∀ i, i < n → Asc (Q i)
theorem KMap.below {w w' : World} {X : Nat} {mo : Option Nat} {S : Nat → ByteArray} {V : Nat → Value} {Q : Nat → List Int} {n : Nat} (h : KMap w X mo S V Q n) (hb : Below X w w') : KMap w' X mo S V Q n :=
  ⟨⟨h.is.1, fun b e => (let ⟨m, hm⟩ := h.is.2 b e; ⟨m, hm.block (hb.block b (h.lt b e))⟩)⟩, h.lt, fun i hi => (h.ints i hi).below hb, h.asc⟩
theorem KMap.nil {w : World} {X : Nat} {S : Nat → ByteArray} {V : Nat → Value} {Q : Nat → List Int} {n : Nat} (h : KMap w X none S V Q n) (l : List UInt8) : qOf S Q n l = [] := by
  have := h.is.1 rfl l
  unfold lastV at this
  unfold qOf
  cases hj : lastI S n l with
  | none => rfl
  | some j => rw [hj] at this; cases this
theorem KMap.look {w : World} {X b : Nat} {S : Nat → ByteArray} {V : Nat → Value} {Q : Nat → List Int} {n : Nat} (h : KMap w X (some b) S V Q n) {s : ByteArray} (hs : s.size ≤ maxLen) :
    (Instr.lookup 47 (.map (some b)) (.string s) false).run Try.prog w = .ok (vOf S V n s.data.toList) w := by
  obtain ⟨m, hm⟩ := h.is.2 b rfl
  exact hm.look hs

/-- What the candidates of a path hold. -/
def CandM (qa qe : List Int) (S : Nat → ByteArray) (Q : Nat → List Int) (n : Nat) (p : List UInt8) (i : Nat) (x : Int) : Prop :=
  x ∈ qa ∨ x ∈ qe ∨ ∃ j, j < i ∧ j ≤ p.length ∧ Ends p j ∧ x ∈ qOf S Q n (p.take j)

def CandsPost (w : World) (X : Nat) (M : Int → Prop) (tot : Nat) (e : Ending) (w' : World) : Prop := e = .returned (.tuple #[]) ∧ Below X w w' ∧ AddSt w' X M tot

theorem candM_skip {qa qe : List Int} {S : Nat → ByteArray} {Q : Nat → List Int} {n : Nat} {p : List UInt8} {i : Nat} (h : ¬ Ends p i) (x : Int) : CandM qa qe S Q n p i x ↔ CandM qa qe S Q n p (i + 1) x := by
  unfold CandM
  refine or_congr Iff.rfl (or_congr Iff.rfl ⟨fun ⟨j, h1, h2⟩ => ⟨j, by omega, h2⟩, fun ⟨j, h1, h2, h3, h4⟩ => ?_⟩)
  by_cases e : j = i
  · subst e; exact absurd h3 h
  · exact ⟨j, by omega, h2, h3, h4⟩
theorem candM_put {qa qe : List Int} {S : Nat → ByteArray} {Q : Nat → List Int} {n : Nat} {p : List UInt8} {i : Nat} (h : Ends p i) (hi : i ≤ p.length) (x : Int) : (CandM qa qe S Q n p i x ∨ x ∈ qOf S Q n (p.take i)) ↔ CandM qa qe S Q n p (i + 1) x := by
  unfold CandM
  constructor
  · rintro ((h1 | h1 | ⟨j, h1, h2⟩) | h1)
    · exact .inl h1
    · exact .inr (.inl h1)
    · exact .inr (.inr ⟨j, by omega, h2⟩)
    · exact .inr (.inr ⟨i, by omega, hi, h, h1⟩)
  · rintro (h1 | h1 | ⟨j, h1, h2, h3, h4⟩)
    · exact .inl (.inl h1)
    · exact .inl (.inr (.inl h1))
    · by_cases e : j = i
      · subst e; exact .inr h4
      · exact .inl (.inr (.inr ⟨j, by omega, h2, h3, h4⟩))

theorem neqMap47 (w : World) (m : Option Nat) : (binOp .neq 47 (.map m) (.map none)).run Try.prog w = .ok (.bool (!m.isNone)) w := by
  have h : ∀ d : Nat, (Op.equalIn (d + 1) 47 (.map m) (.map none)).run Try.prog w = .ok m.isNone w := fun d => by
    cases m <;> simp [Op.equalIn, run_underlying Try.underlying47]
  simp only [binOp]
  simp [Op.equal, Op.maxDepth, h 9999]
theorem eqlMap47 (w : World) (m : Option Nat) : (binOp .eql 47 (.map m) (.map none)).run Try.prog w = .ok (.bool m.isNone) w := by
  have h : ∀ d : Nat, (Op.equalIn (d + 1) 47 (.map m) (.map none)).run Try.prog w = .ok m.isNone w := fun d => by
    cases m <;> simp [Op.equalIn, run_underlying Try.underlying47]
  simp only [binOp]
  simp [Op.equal, Op.maxDepth, h 9999]

theorem take_data (p : ByteArray) (i : Nat) : (p.extract 0 i).data.toList = p.data.toList.take i := by
  rw [Lib.extract_data]
  simp
theorem take_size (p : ByteArray) {i : Nat} (h : i ≤ p.size) : (p.extract 0 i).size = i := by
  have := take_data p i
  rw [Lib.size_eq, this, List.length_take, ← Lib.size_eq]
  omega
theorem slice_q {X : Nat} {w : World} {v : Value} {q : List Int} (h : IntsB X w v q) : ∃ a c, v = .slice a q.length c := by
  obtain ⟨a, c, e, _⟩ := h
  exact ⟨a, c, e⟩

theorem AddSt.heap {w W : World} {X : Nat} {M : Int → Prop} {tot : Nat} (h : AddSt w X M tot) (hh : W.heap = w.heap) : AddSt W X M tot := by
  obtain ⟨T, P, U, mv, h1, h2, h3, h4, h5, h6⟩ := h
  refine ⟨T, P, U, mv, h1.kept (by rw [hh]) (fun g _ => by rw [hh]), fun j hj => ?_, h3, h4, h5, h6⟩
  obtain ⟨a, c, e, g1, g2, g3⟩ := h2 j hj
  refine ⟨a, c, e, g1, ⟨g2.1, ?_⟩, g3⟩
  have := g2.2
  simpa [World.cell?, hh] using this
theorem held_next {X R : Nat} {wr w3 w4 : World} {v : Value} (h : w3.cell? ⟨R, 0, none⟩ = some v ∧ Below X wr w3) (hb : Below X w3 w4) (hR : R < X) : w4.cell? ⟨R, 0, none⟩ = some v ∧ Below X wr w4 :=
  ⟨(hb.cell (p := ⟨R, 0, none⟩) hR).trans h.1, h.2.trans hb⟩

set_option maxRecDepth 100000 in
set_option maxHeartbeats 2000000 in
theorem cands42 (w : World) (R X : Nat) (mp me : Option Nat) (aa : Option Addr) (la ca : Nat) (qa : List Int) (Sp Se : Nat → ByteArray) (Vp Ve : Nat → Value) (Qp Qe : Nat → List Int) (np ne : Nat) (path : ByteArray)
    (hR : Rules w R mp me (.slice aa la ca)) (hRX : R < X) (hp : KMap w X mp Sp Vp Qp np) (he : KMap w X me Se Ve Qe ne) (hqa : qa.length = la) (hva : IntsB X w (.slice aa la ca) qa) (haa : Asc qa) (hs : path.size ≤ 1048576)
    (ht : la + sumL Qe ne + sumL Qp np ≤ 1048576) (h : AddSt w X (fun _ => False) 0) :
    Calls Try.prog 42 #[.pointer (some ⟨R, 0, none⟩), .pointer (some ⟨X, 0, none⟩), .string path] w (CandsPost w X (CandM qa (qOf Se Qe ne path.data.toList) Sp Qp np path.data.toList (path.data.toList.length + 1)) (la + sumL Qe ne + sumL Qp np)) := by
  have r2 := hR.r2
  have C1 := hid (add39S w X _ 0 h (by omega) aa la ca qa hqa (by omega) hva haa)
  have HR := hid hR
  have HP := hid hp
  have HE := hid he
  have hsm : path.size ≤ maxLen := by unfold maxLen; omega
  have qn := neqMap47
  have qe := eqlMap47
  clear h hva hR hp he
  go_enter Try.func42, Try.ntmps42
  go_wp2_with fail
  refine C1.out.mono ?_
  rintro e w1 ⟨rfl, hb1, hst1⟩
  have R1 := HR.out.below hb1 hRX
  have r1 := R1.r1
  have E1 := hid (HE.out.below hb1)
  have P1 := hid (HP.out.below hb1)
  have HR1 := hid R1
  have S1 := hid hst1
  have B1 := hid hb1
  have HP0 := HP
  have HR0 := HR
  clear hst1 hb1 r2 C1 HR HE HP R1
  cases me with
  | none =>
    have S2 := hid (S1.out.congr (M' := fun x => x ∈ qa ∨ x ∈ qOf Se Qe ne path.data.toList) (tot' := la + sumL Qe ne) (fun x => by rw [E1.out.nil]; simp) (by omega))
    have P2 := P1
    have B2 := B1
    have r0' := HR1.out.r0
    clear S1 P1 B1
    cases mp with
    | none =>
      have hnil := fun l => P2.out.nil l
      have HM : Hid (∀ x, (x ∈ qa ∨ x ∈ qOf Se Qe ne path.data.toList) ↔ CandM qa (qOf Se Qe ne path.data.toList) Sp Qp np path.data.toList (path.data.toList.length + 1) x) := hid (fun x => by
        unfold CandM
        constructor
        · rintro (h1 | h1)
          · exact .inl h1
          · exact .inr (.inl h1)
        · rintro (h1 | h1 | ⟨j, _, _, _, h4⟩)
          · exact .inl h1
          · exact .inr h1
          · rw [hnil] at h4; cases h4)
      clear hnil
      go_wp2_with fail
      go_end0
      exact ⟨rfl, B2.out, S2.out.congr HM.out (by omega)⟩
    | some bp =>
      go_wp2_with fail
      go_loopw [6] (fun v wr => ∃ i : Nat, i ≤ path.size + 1 ∧ v = .int .i64 i ∧ Hid (AddSt wr X (CandM qa (qOf Se Qe ne path.data.toList) Sp Qp np path.data.toList i) (la + sumL Qe ne + sumK Sp Qp i np)) ∧ Below X w wr) (fun v _ => path.size + 1 - (intOf v).toNat)
      case atStart => exact ⟨0, Nat.zero_le _, rfl, hid (S2.out.congr (fun x => by
        unfold CandM
        constructor
        · rintro (h1 | h1)
          · exact .inl h1
          · exact .inr (.inl h1)
        · rintro (h1 | h1 | ⟨j, h1, _⟩)
          · exact .inl h1
          · exact .inr h1
          · omega) (by omega)), B2.out⟩
      case round =>
        obtain ⟨i, hi, rfl, S3, hbel⟩ := hrel
        have P3 := hid (HP0.out.below hbel)
        have R3 := HR0.out.below hbel hRX
        have r0 := R3.r0
        have B3 := hid hbel
        have hpl : path.size = path.data.toList.length := Lib.size_eq path
        clear R3 hbel
        by_cases hle : i ≤ path.size
        · have i1 : (i : Int) ≤ (path.size : Int) := by omega
          have i0 : (0 : Int) ≤ (i : Int) := by omega
          by_cases heq : i = path.size
          · have d1 : ((i : Int) == (path.size : Int)) = true := by simp [heq]
            have HEN : Hid (Ends path.data.toList i) := hid (.inl (by omega))
            clear heq
            have hends : Ends path.data.toList i := HEN.out
            obtain ⟨va, vc, hve⟩ := slice_q (vOf_ints P3.out.ints (path.data.toList.take i))
            have hqs := sumK_q Sp Qp (n := np) (i := i) (l := path.data.toList.take i) (by rw [List.length_take]; omega)
            have hK1 := sumK_le Sp Qp (i + 1) np
            have C3 := hid (fun (W : World) (hh : W.heap = wr.heap) (h1 : W.os = wr.os) (h2 : W.tape = wr.tape) (h3 : W.output = wr.output) => add39S W X _ (la + sumL Qe ne + sumK Sp Qp i np) (AddSt.heap S3.out hh) (by omega) va _ vc (qOf Sp Qp np (path.data.toList.take i)) rfl (by omega) (by rw [← hve]; exact (vOf_ints P3.out.ints (path.data.toList.take i)).below (below_same (Below.refl X wr) hh h1 h2 h3)) (qOf_asc P3.out.asc _))
            have hlk := (P3.out.below (w' := wr.drew) (Below.refl X wr).drew).look (s := path.extract 0 i) (by rw [take_size path (by omega)]; unfold maxLen; omega)
            rw [take_data, hve] at hlk
            have HQS := hid hqs
            obtain ⟨ql, hql⟩ : ∃ ql, ql = (qOf Sp Qp np (path.data.toList.take i)).length := ⟨_, rfl⟩
            rw [← hql] at hlk C3
            have HQL := hid hql
            have HVE := hid hve
            have HPUT := hid (fun x => candM_put (qa := qa) (qe := qOf Se Qe ne path.data.toList) (S := Sp) (Q := Qp) (n := np) hends (by omega) x)
            have HBW := hid (show Below X wr wr from Below.refl X wr)
            clear hends hqs hve hql hK1 hpl
            go_wp2_with fail
            go_region_held3 (fun w' => w'.cell? ⟨R, 0, none⟩ = some (.map (some bp)) ∧ Below X wr w') (first | exact ⟨r0, Below.refl X wr⟩ | exact ⟨r0, (Below.refl X wr).drew⟩ | exact hSS) (first | (go_at_call 39; refine (C3.out _ (by rfl) (by rfl) (by rfl) (by rfl)).mono ?_; rintro e w4 ⟨rfl, hb4, hst4⟩; have hSS := held_next (by assumption) hb4 hRX))
            all_goals
              go_wp2_with fail
              go_roundw
              case rel => exact ⟨i + 1, by omega, by go_num, hid (AddSt.congr hst4 (fun x => HPUT.out x) (by have h1 := HQS.out; have h2 := HQL.out; omega)), B3.out.trans hSS.2⟩
              case measure => simp [intOf]; omega

          · have hlt : i < path.size := by omega
            have hbt := byte_at path hlt
            have d1 : ((i : Int) == (path.size : Int)) = false := by simp; omega
            have hlt' : (i : Int) < (path.size : Int) := by omega
            by_cases h47 : ((path[i]'hlt).toNat : Int) = 47
            · have d2 : (((path[i]'hlt).toNat : Int) == 47) = true := by simp [h47]
              have HEN : Hid (Ends path.data.toList i) := hid (.inr (by
                rw [hbt]
                have : (path[i]'hlt) = 47 := UInt8.toNat_inj.1 (by simpa using (by omega : (path[i]'hlt).toNat = 47))
                rw [this]))
              clear hbt
              have hends : Ends path.data.toList i := HEN.out
              obtain ⟨va, vc, hve⟩ := slice_q (vOf_ints P3.out.ints (path.data.toList.take i))
              have hqs := sumK_q Sp Qp (n := np) (i := i) (l := path.data.toList.take i) (by rw [List.length_take]; omega)
              have hK1 := sumK_le Sp Qp (i + 1) np
              have C3 := hid (fun (W : World) (hh : W.heap = wr.heap) (h1 : W.os = wr.os) (h2 : W.tape = wr.tape) (h3 : W.output = wr.output) => add39S W X _ (la + sumL Qe ne + sumK Sp Qp i np) (AddSt.heap S3.out hh) (by omega) va _ vc (qOf Sp Qp np (path.data.toList.take i)) rfl (by omega) (by rw [← hve]; exact (vOf_ints P3.out.ints (path.data.toList.take i)).below (below_same (Below.refl X wr) hh h1 h2 h3)) (qOf_asc P3.out.asc _))
              have hlk := (P3.out.below (w' := wr.drew) (Below.refl X wr).drew).look (s := path.extract 0 i) (by rw [take_size path (by omega)]; unfold maxLen; omega)
              rw [take_data, hve] at hlk
              have HQS := hid hqs
              obtain ⟨ql, hql⟩ : ∃ ql, ql = (qOf Sp Qp np (path.data.toList.take i)).length := ⟨_, rfl⟩
              rw [← hql] at hlk C3
              have HQL := hid hql
              have HVE := hid hve
              have HPUT := hid (fun x => candM_put (qa := qa) (qe := qOf Se Qe ne path.data.toList) (S := Sp) (Q := Qp) (n := np) hends (by omega) x)
              have HBW := hid (show Below X wr wr from Below.refl X wr)
              clear hends hqs hve hql hK1 hpl
              go_wp2_with fail
              go_region_held3 (fun w' => w'.cell? ⟨R, 0, none⟩ = some (.map (some bp)) ∧ Below X wr w') (first | exact ⟨r0, Below.refl X wr⟩ | exact ⟨r0, (Below.refl X wr).drew⟩ | exact hSS) (first | (go_at_call 39; refine (C3.out _ (by rfl) (by rfl) (by rfl) (by rfl)).mono ?_; rintro e w4 ⟨rfl, hb4, hst4⟩; have hSS := held_next (by assumption) hb4 hRX))
              all_goals
                go_wp2_with fail
                go_roundw
                case rel => exact ⟨i + 1, by omega, by go_num, hid (AddSt.congr hst4 (fun x => HPUT.out x) (by have h1 := HQS.out; have h2 := HQL.out; omega)), B3.out.trans hSS.2⟩
                case measure => simp [intOf]; omega

            · have d2 : (((path[i]'hlt).toNat : Int) == 47) = false := by simpa using h47
              have hne : ¬ Ends path.data.toList i := by
                rintro (h1 | h1)
                · omega
                · rw [hbt] at h1
                  have h2 := Option.some.inj h1
                  rw [h2] at h47
                  exact h47 rfl
              have HSK := hid (fun x => candM_skip (qa := qa) (qe := qOf Se Qe ne path.data.toList) (S := Sp) (Q := Qp) (n := np) hne x)
              have hKm := sumK_mono Sp Qp i np
              have HKM := hid hKm
              clear hbt hne hKm hpl
              go_wp2_with fail
              go_roundw
              case rel => exact ⟨i + 1, by omega, by go_num, hid (S3.out.congr (fun x => HSK.out x) (by have := HKM.out; omega)), B3.out⟩
              case measure => simp [intOf]; omega
        · have e : i = path.data.toList.length + 1 := by omega
          have hK1 := sumK_le Sp Qp i np
          have HF := hid (S3.out.congr (tot' := la + sumL Qe ne + sumL Qp np) (fun x => Iff.rfl) (by omega))
          rw [e] at HF
          clear e S3 hK1 hpl
          go_wp2_with fail
          go_end0
          exact ⟨rfl, B3.out, HF.out⟩
  | some be =>
    have hlk1 := E1.out.look hsm
    obtain ⟨va, vc, hve⟩ := slice_q (vOf_ints (S := Se) E1.out.ints path.data.toList)
    rw [hve] at hlk1
    have C2 := hid (add39S w1 X _ _ S1.out (by omega) va _ vc (qOf Se Qe ne path.data.toList) rfl (by have := qOf_len (S := Se) (Q := Qe) (n := ne) path.data.toList; omega) (by rw [← hve]; exact vOf_ints E1.out.ints _) (qOf_asc E1.out.asc _))
    have hqe := qOf_len (S := Se) (Q := Qe) (n := ne) path.data.toList
    have HQE := hid hqe
    obtain ⟨el, hel⟩ : ∃ el, el = (qOf Se Qe ne path.data.toList).length := ⟨_, rfl⟩
    rw [← hel] at hlk1 C2
    have HEL := hid hel
    clear hve hqe hel
    go_wp2_with fail
    refine C2.out.mono ?_
    rintro e w2 ⟨rfl, hb2, hst2⟩
    have S2 := hid (hst2.congr (M' := fun x => x ∈ qa ∨ x ∈ qOf Se Qe ne path.data.toList) (tot' := la + sumL Qe ne) (fun x => by simp) (by have h1 := HQE.out; have h2 := HEL.out; omega))
    have P2 := hid (P1.out.below hb2)
    have B2 := hid (B1.out.trans hb2)
    have r0' := (HR1.out.below hb2 hRX).r0
    clear hst2 hb2 C2 hlk1 r1 S1 P1 B1
    cases mp with
    | none =>
      have hnil := fun l => P2.out.nil l
      have HM : Hid (∀ x, (x ∈ qa ∨ x ∈ qOf Se Qe ne path.data.toList) ↔ CandM qa (qOf Se Qe ne path.data.toList) Sp Qp np path.data.toList (path.data.toList.length + 1) x) := hid (fun x => by
        unfold CandM
        constructor
        · rintro (h1 | h1)
          · exact .inl h1
          · exact .inr (.inl h1)
        · rintro (h1 | h1 | ⟨j, _, _, _, h4⟩)
          · exact .inl h1
          · exact .inr h1
          · rw [hnil] at h4; cases h4)
      clear hnil
      go_wp2_with fail
      go_end0
      exact ⟨rfl, B2.out, S2.out.congr HM.out (by omega)⟩
    | some bp =>
      go_wp2_with fail
      go_loopw [6] (fun v wr => ∃ i : Nat, i ≤ path.size + 1 ∧ v = .int .i64 i ∧ Hid (AddSt wr X (CandM qa (qOf Se Qe ne path.data.toList) Sp Qp np path.data.toList i) (la + sumL Qe ne + sumK Sp Qp i np)) ∧ Below X w wr) (fun v _ => path.size + 1 - (intOf v).toNat)
      case atStart => exact ⟨0, Nat.zero_le _, rfl, hid (S2.out.congr (fun x => by
        unfold CandM
        constructor
        · rintro (h1 | h1)
          · exact .inl h1
          · exact .inr (.inl h1)
        · rintro (h1 | h1 | ⟨j, h1, _⟩)
          · exact .inl h1
          · exact .inr h1
          · omega) (by omega)), B2.out⟩
      case round =>
        obtain ⟨i, hi, rfl, S3, hbel⟩ := hrel
        have P3 := hid (HP0.out.below hbel)
        have R3 := HR0.out.below hbel hRX
        have r0 := R3.r0
        have B3 := hid hbel
        have hpl : path.size = path.data.toList.length := Lib.size_eq path
        clear R3 hbel
        by_cases hle : i ≤ path.size
        · have i1 : (i : Int) ≤ (path.size : Int) := by omega
          have i0 : (0 : Int) ≤ (i : Int) := by omega
          by_cases heq : i = path.size
          · have d1 : ((i : Int) == (path.size : Int)) = true := by simp [heq]
            have HEN : Hid (Ends path.data.toList i) := hid (.inl (by omega))
            clear heq
            have hends : Ends path.data.toList i := HEN.out
            obtain ⟨va, vc, hve⟩ := slice_q (vOf_ints P3.out.ints (path.data.toList.take i))
            have hqs := sumK_q Sp Qp (n := np) (i := i) (l := path.data.toList.take i) (by rw [List.length_take]; omega)
            have hK1 := sumK_le Sp Qp (i + 1) np
            have C3 := hid (fun (W : World) (hh : W.heap = wr.heap) (h1 : W.os = wr.os) (h2 : W.tape = wr.tape) (h3 : W.output = wr.output) => add39S W X _ (la + sumL Qe ne + sumK Sp Qp i np) (AddSt.heap S3.out hh) (by omega) va _ vc (qOf Sp Qp np (path.data.toList.take i)) rfl (by omega) (by rw [← hve]; exact (vOf_ints P3.out.ints (path.data.toList.take i)).below (below_same (Below.refl X wr) hh h1 h2 h3)) (qOf_asc P3.out.asc _))
            have hlk := (P3.out.below (w' := wr.drew) (Below.refl X wr).drew).look (s := path.extract 0 i) (by rw [take_size path (by omega)]; unfold maxLen; omega)
            rw [take_data, hve] at hlk
            have HQS := hid hqs
            obtain ⟨ql, hql⟩ : ∃ ql, ql = (qOf Sp Qp np (path.data.toList.take i)).length := ⟨_, rfl⟩
            rw [← hql] at hlk C3
            have HQL := hid hql
            have HVE := hid hve
            have HPUT := hid (fun x => candM_put (qa := qa) (qe := qOf Se Qe ne path.data.toList) (S := Sp) (Q := Qp) (n := np) hends (by omega) x)
            have HBW := hid (show Below X wr wr from Below.refl X wr)
            clear hends hqs hve hql hK1 hpl
            go_wp2_with fail
            go_region_held3 (fun w' => w'.cell? ⟨R, 0, none⟩ = some (.map (some bp)) ∧ Below X wr w') (first | exact ⟨r0, Below.refl X wr⟩ | exact ⟨r0, (Below.refl X wr).drew⟩ | exact hSS) (first | (go_at_call 39; refine (C3.out _ (by rfl) (by rfl) (by rfl) (by rfl)).mono ?_; rintro e w4 ⟨rfl, hb4, hst4⟩; have hSS := held_next (by assumption) hb4 hRX))
            all_goals
              go_wp2_with fail
              go_roundw
              case rel => exact ⟨i + 1, by omega, by go_num, hid (AddSt.congr hst4 (fun x => HPUT.out x) (by have h1 := HQS.out; have h2 := HQL.out; omega)), B3.out.trans hSS.2⟩
              case measure => simp [intOf]; omega

          · have hlt : i < path.size := by omega
            have hbt := byte_at path hlt
            have d1 : ((i : Int) == (path.size : Int)) = false := by simp; omega
            have hlt' : (i : Int) < (path.size : Int) := by omega
            by_cases h47 : ((path[i]'hlt).toNat : Int) = 47
            · have d2 : (((path[i]'hlt).toNat : Int) == 47) = true := by simp [h47]
              have HEN : Hid (Ends path.data.toList i) := hid (.inr (by
                rw [hbt]
                have : (path[i]'hlt) = 47 := UInt8.toNat_inj.1 (by simpa using (by omega : (path[i]'hlt).toNat = 47))
                rw [this]))
              clear hbt
              have hends : Ends path.data.toList i := HEN.out
              obtain ⟨va, vc, hve⟩ := slice_q (vOf_ints P3.out.ints (path.data.toList.take i))
              have hqs := sumK_q Sp Qp (n := np) (i := i) (l := path.data.toList.take i) (by rw [List.length_take]; omega)
              have hK1 := sumK_le Sp Qp (i + 1) np
              have C3 := hid (fun (W : World) (hh : W.heap = wr.heap) (h1 : W.os = wr.os) (h2 : W.tape = wr.tape) (h3 : W.output = wr.output) => add39S W X _ (la + sumL Qe ne + sumK Sp Qp i np) (AddSt.heap S3.out hh) (by omega) va _ vc (qOf Sp Qp np (path.data.toList.take i)) rfl (by omega) (by rw [← hve]; exact (vOf_ints P3.out.ints (path.data.toList.take i)).below (below_same (Below.refl X wr) hh h1 h2 h3)) (qOf_asc P3.out.asc _))
              have hlk := (P3.out.below (w' := wr.drew) (Below.refl X wr).drew).look (s := path.extract 0 i) (by rw [take_size path (by omega)]; unfold maxLen; omega)
              rw [take_data, hve] at hlk
              have HQS := hid hqs
              obtain ⟨ql, hql⟩ : ∃ ql, ql = (qOf Sp Qp np (path.data.toList.take i)).length := ⟨_, rfl⟩
              rw [← hql] at hlk C3
              have HQL := hid hql
              have HVE := hid hve
              have HPUT := hid (fun x => candM_put (qa := qa) (qe := qOf Se Qe ne path.data.toList) (S := Sp) (Q := Qp) (n := np) hends (by omega) x)
              have HBW := hid (show Below X wr wr from Below.refl X wr)
              clear hends hqs hve hql hK1 hpl
              go_wp2_with fail
              go_region_held3 (fun w' => w'.cell? ⟨R, 0, none⟩ = some (.map (some bp)) ∧ Below X wr w') (first | exact ⟨r0, Below.refl X wr⟩ | exact ⟨r0, (Below.refl X wr).drew⟩ | exact hSS) (first | (go_at_call 39; refine (C3.out _ (by rfl) (by rfl) (by rfl) (by rfl)).mono ?_; rintro e w4 ⟨rfl, hb4, hst4⟩; have hSS := held_next (by assumption) hb4 hRX))
              all_goals
                go_wp2_with fail
                go_roundw
                case rel => exact ⟨i + 1, by omega, by go_num, hid (AddSt.congr hst4 (fun x => HPUT.out x) (by have h1 := HQS.out; have h2 := HQL.out; omega)), B3.out.trans hSS.2⟩
                case measure => simp [intOf]; omega

            · have d2 : (((path[i]'hlt).toNat : Int) == 47) = false := by simpa using h47
              have hne : ¬ Ends path.data.toList i := by
                rintro (h1 | h1)
                · omega
                · rw [hbt] at h1
                  have h2 := Option.some.inj h1
                  rw [h2] at h47
                  exact h47 rfl
              have HSK := hid (fun x => candM_skip (qa := qa) (qe := qOf Se Qe ne path.data.toList) (S := Sp) (Q := Qp) (n := np) hne x)
              have hKm := sumK_mono Sp Qp i np
              have HKM := hid hKm
              clear hbt hne hKm hpl
              go_wp2_with fail
              go_roundw
              case rel => exact ⟨i + 1, by omega, by go_num, hid (S3.out.congr (fun x => HSK.out x) (by have := HKM.out; omega)), B3.out⟩
              case measure => simp [intOf]; omega
        · have e : i = path.data.toList.length + 1 := by omega
          have hK1 := sumK_le Sp Qp i np
          have HF := hid (S3.out.congr (tot' := la + sumL Qe ne + sumL Qp np) (fun x => Iff.rfl) (by omega))
          rw [e] at HF
          clear e S3 hK1 hpl
          go_wp2_with fail
          go_end0
          exact ⟨rfl, B3.out, HF.out⟩
end Go.Proofs.Qxb6600159a
