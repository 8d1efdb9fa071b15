import Derived.Test.Qxb6600159aE0
import Derived.Maps.Views
namespace Go.Proofs.Qxb6600159a
open Go.RowKit Go.Maps
set_option linter.unusedVariables false

theorem mlaw9' : Keyed Try.prog 9 := string_keyed Try.underlying9
theorem mzero26 (w : World) : (zeroValue 26).run Try.prog w = .ok (.slice none 0 0) w := by kernel_rfl

/-- A value reads as itself. -/
def anyElem (v : Value) : Option (DataW Value × List MemPlace) := some (.held v, [])

/-- Block b is a map from strings to values; g says which. -/
def OwnV (w : World) (b n : Nat) (g : List UInt8 → Option Value) : Prop :=
  ∃ D : DataW Value, IsMap D ∧ w.ownsMap Try.prog 9 anyElem b n D ∧ ∀ l, ∀ z, D.atKey (.string l) z = (match g l with | none => z | some v => .held v)

theorem OwnV.made (w : World) : OwnV (w.alloc (.map #[] 0)) w.heap.size 0 (fun _ => none) :=
  ⟨.map [], isMap_empty, World.ownsMap_made w Try.prog 9 _, fun l z => rfl⟩
theorem OwnV.lt {w : World} {b n : Nat} {g : List UInt8 → Option Value} (h : OwnV w b n g) : b < w.heap.size := by
  obtain ⟨D, _, h, _⟩ := h
  exact h.lt
theorem OwnV.block {w w' : World} {b n : Nat} {g : List UInt8 → Option Value} (h : OwnV w b n g) (hb : w'.heap[b]? = w.heap[b]?) : OwnV w' b n g := by
  obtain ⟨D, h1, h2, h3⟩ := h
  obtain ⟨es, clock, hh, F⟩ := h2
  exact ⟨D, h1, ⟨es, clock, hb.trans hh, F⟩, h3⟩

theorem OwnV.look {w : World} {b n : Nat} {g : List UInt8 → Option Value} (h : OwnV w b n g) {s : ByteArray} (hs : s.size ≤ maxLen) :
    (Instr.lookup 47 (.map (some b)) (.string s) false).run Try.prog w = .ok (match g s.data.toList with | none => .slice none 0 0 | some v => v) w := by
  obtain ⟨D, h1, ⟨es, clock, hb, F, hsz, hD⟩, h3⟩ := h
  have hk := WideMaps.keyOf_string_mk Try.underlying9 hs
  rcases Maps.fit_look false mlaw9' Try.underlying47 (mzero26 w) hb F hk with ⟨hrun, _, hat⟩ | ⟨e0, y, _, _, hrun, hRv, hat, _⟩
  · rw [← hD] at hat
    have e1 := (h3 s.data.toList .nil).symm.trans (hat .nil)
    cases hg : g s.data.toList with
    | none => exact hrun
    | some p =>
      rw [hg] at e1
      simp at e1
  · rw [← hD] at hat
    cases hRv
    have e1 := (h3 s.data.toList .nil).symm.trans (hat .nil)
    cases hg : g s.data.toList with
    | none =>
      rw [hg] at e1
      simp at e1
    | some p =>
      rw [hg] at e1
      simp at e1
      subst e1
      exact hrun

def vPut (g : List UInt8 → Option Value) (k : List UInt8) (v : Value) (x : List UInt8) : Option Value := if x = k then some v else g x

theorem OwnV.store {w : World} {b n : Nat} {g : List UInt8 → Option Value} (h : OwnV w b n g) (hn : n < 100000) {s : ByteArray} (hs : s.size ≤ maxLen) (v : Value) :
    ∃ w', (Instr.mapUpdate 47 (.map (some b)) (.string s) v).run Try.prog w = .ok () w' ∧ OwnV w' b (n + 1) (vPut g s.data.toList v) ∧ w.grownBy w' (some b) := by
  obtain ⟨D, h1, h2, h3⟩ := h
  have hk := WideMaps.keyOf_string_mk Try.underlying9 hs
  obtain ⟨w', hr, h4, h5⟩ := h2.update mlaw9' Try.underlying47 (by unfold maxLen; omega) hk (show anyElem v = some (.held v, []) from rfl)
  refine ⟨w', hr, ⟨_, h1.put _ _, h4, ?_⟩, h5⟩
  intro x z
  by_cases e : x = s.data.toList
  · subst e
    rw [atKey_put_same h1 (mlaw9'.key hk)]
    simp [vPut]
  · rw [atKey_put_other (by simpa using e), h3 x z]
    simp [vPut, e]

/-- The last place at which a key stands. -/
def lastI (S : Nat → ByteArray) : Nat → List UInt8 → Option Nat
  | 0, _ => none
  | k + 1, l => if l = (S k).data.toList then some k else lastI S k l
def lastV (S : Nat → ByteArray) (V : Nat → Value) (k : Nat) (l : List UInt8) : Option Value := (lastI S k l).map V

theorem lastV_put (S : Nat → ByteArray) (V : Nat → Value) (k : Nat) : vPut (lastV S V k) (S k).data.toList (V k) = lastV S V (k + 1) := by
  funext l
  simp only [vPut, lastV, lastI]
  split <;> rfl

/-- The map value mo holds g. -/
def MapIs (w : World) (mo : Option Nat) (g : List UInt8 → Option Value) : Prop := (mo = none → ∀ l, g l = none) ∧ ∀ b, mo = some b → ∃ n, OwnV w b n g

def MapPost (w : World) (g : List UInt8 → Option Value) (e : Ending) (w' : World) : Prop :=
  ∃ mo, e = .returned (.map mo) ∧ MapIs w' mo g ∧ Below w.heap.size w w'

theorem MapIs.later {w w' : World} {mo : Option Nat} {g : List UInt8 → Option Value} (h : MapIs w mo g) (hb : Below w.heap.size w w') : MapIs w' mo g :=
  ⟨h.1, fun b e => (let ⟨n, hn⟩ := h.2 b e; ⟨n, hn.block (hb.block b hn.lt)⟩)⟩

set_option maxHeartbeats 1000000 in
theorem build28 (ak al : Option Addr) (nk nl ck cl n : Nat) (S : Nat → ByteArray) (V : Nat → Value) (Q : Nat → List Int) (w : World) (hk : Arr w ak nk fun i => .string (S i)) (hs : ∀ i, (S i).size ≤ maxLen) (hl : Ls w al nl V Q) (h1 : n ≤ nk) (h2 : n ≤ nl) (hn : n ≤ 4096) :
    Calls Try.prog 28 #[.slice ak nk ck, .slice al nl cl, .int .i64 (n : Int)] w (MapPost w (lastV S V n)) := by
  have hmm := @run_makeMap Try.prog
  by_cases hn0 : n = 0
  · subst hn0
    go_enter Try.func28, Try.ntmps28
    go_wp2
    go_ret
    exact ⟨none, rfl, ⟨fun _ l => rfl, fun b e => by cases e⟩, Below.refl _ _⟩
  · have d0 : ((n : Int) == 0) = false := by simp; omega
    have O0 := hid (OwnV.made w)
    go_enter Try.func28, Try.ntmps28
    go_wp2
    clear hmm
    go_loopw [8] (fun i wr => ∃ k : Nat, k ≤ n ∧ i = .int .i64 k ∧ OwnV wr w.heap.size k (lastV S V k) ∧ Below w.heap.size w wr) (fun i _ => n - (intOf i).toNat)
    case atStart => exact ⟨0, Nat.zero_le _, rfl, O0.out, (Below.refl _ _).alloc (Nat.le_refl _) _⟩
    case round =>
      obtain ⟨k, hkn, rfl, hown, hbel⟩ := hrel
      by_cases hlt : k < n
      · obtain ⟨b, off, rfl, hc⟩ := (hk.later hbel).at (k := k) (by omega)
        obtain ⟨b2, o2, a', c', rfl, hc2, hv, _, _, _⟩ := (hl.later hbel).at (k := k) (by omega)
        have i1 : (k : Int) < (nk : Int) := by omega
        have i2 : (k : Int) < (nl : Int) := by omega
        have i3 : (k : Int) < (n : Int) := by omega
        rw [← hv] at hc2
        obtain ⟨w2, hup, hown2, hgr⟩ := (hown.block (w' := wr.drew) rfl).store (by omega) (hs k) (V k)
        rw [lastV_put] at hown2
        rw [hv] at hup hc2
        have O2 := hid hown2
        have B2 := hid (hbel.drew.grown hgr hbel.size (fun j hj => by cases hj; exact Nat.le_refl _))
        generalize (Q k).length = l at hup hc2
        clear hown2 hgr hown hbel hv
        go_wp2
        go_region
        go_wp2
        go_roundw
        case rel => exact ⟨k + 1, by omega, by go_num, O2.out, B2.out⟩
        case measure => simp [intOf]; omega
      · go_wp2
        go_ret
        have e : k = n := by omega
        subst e
        exact ⟨some w.heap.size, rfl, ⟨fun h => (by cases h), fun b e => (by cases e; exact ⟨k, hown⟩)⟩, hbel⟩

/-- The rules of one host at block R. -/
structure Rules (w : World) (R : Nat) (mp me : Option Nat) (va : Value) : Prop where
  r0 : w.cell? ⟨R, 0, none⟩ = some (.map mp)
  r1 : w.cell? ⟨R, 1, none⟩ = some (.map me)
  r2 : w.cell? ⟨R, 2, none⟩ = some va
theorem Rules.below {w w' : World} {R B : Nat} {mp me : Option Nat} {va : Value} (h : Rules w R mp me va) (hb : Below B w w') (hR : R < B) : Rules w' R mp me va :=
  ⟨(hb.cell (p := ⟨R, 0, none⟩) hR).trans h.r0, (hb.cell (p := ⟨R, 1, none⟩) hR).trans h.r1, (hb.cell (p := ⟨R, 2, none⟩) hR).trans h.r2⟩

def MakePost (w : World) (mp me : Option Nat) (va : Value) (e : Ending) (w' : World) : Prop :=
  e = .returned (.pointer (some ⟨w.heap.size, 0, none⟩)) ∧ Rules w' w.heap.size mp me va ∧ Below w.heap.size w w' ∧ w'.heap.size = w.heap.size + 1

theorem make29 (w : World) (mp me : Option Nat) (a : Option Addr) (n c : Nat) : Calls Try.prog 29 #[.map mp, .map me, .slice a n c] w (MakePost w mp me (.slice a n c)) := by
  go_enter Try.func29, Try.ntmps29
  go_wp2
  go_ret
  refine ⟨rfl, ⟨?_, ?_, ?_⟩, (Below.refl _ _).alloc (Nat.le_refl _) _, by simp⟩
  · exact resC (c := #[.map mp, .map me, .slice a n c]) (t := 63) (by show (w.heap.push _)[w.heap.size]? = _; simp) 0 _ rfl
  · exact resC (c := #[.map mp, .map me, .slice a n c]) (t := 63) (by show (w.heap.push _)[w.heap.size]? = _; simp) 1 _ rfl
  · exact resC (c := #[.map mp, .map me, .slice a n c]) (t := 63) (by show (w.heap.push _)[w.heap.size]? = _; simp) 2 _ rfl

/-- A bool that says p; the callee may draw. -/
def SaysD (w : World) (p : Prop) (e : Ending) (w' : World) : Prop := ∃ b : Bool, e = .returned (.bool b) ∧ (b = true ↔ p) ∧ ∃ m, w' = w.drewN m

/-- No later place bears the same key. -/
def IsLast (S : Nat → ByteArray) (i n : Nat) : Prop := ∀ j, i < j → j < n → (S j).data.toList ≠ (S i).data.toList

set_option maxHeartbeats 1000000 in
theorem last31 (a : Option Addr) (nk c i n : Nat) (S : Nat → ByteArray) (w : World) (h : Arr w a nk fun i => .string (S i)) (hi : i < n) (hn : n ≤ nk) (hn4 : n ≤ 4096) :
    Calls Try.prog 31 #[.slice a nk c, .int .i64 (i : Int), .int .i64 (n : Int)] w (SaysD w (IsLast S i n)) := by
  go_enter Try.func31, Try.ntmps31
  go_wp2
  go_loopw [7] (fun v wr => ∃ j : Nat, i + 1 ≤ j ∧ j ≤ n ∧ v = .int .i64 j ∧ Hid (∀ q, i < q → q < j → (S q).data.toList ≠ (S i).data.toList) ∧ ∃ m, wr = w.drewN m) (fun v _ => n - (intOf v).toNat)
  case atStart => exact ⟨i + 1, Nat.le_refl _, by omega, by go_num, hid (fun q h1 h2 => by omega), 0, rfl⟩
  case round =>
    obtain ⟨j, hj1, hj2, rfl, HE, m, rfl⟩ := hrel
    by_cases hlt : j < n
    · obtain ⟨b, off, rfl, c1⟩ := h.at (k := i) (by omega)
      have c2 := h.cell (k := j) (by omega)
      have i1 : (i : Int) < (nk : Int) := by omega
      have i2 : (j : Int) < (nk : Int) := by omega
      have i3 : (j : Int) < (n : Int) := by omega
      by_cases hne : (S j).data.toList = (S i).data.toList
      · have d : ((S j).toList == (S i).toList) = true := by rw [Lib.toList_data, Lib.toList_data]; simp [hne]
        have HN := hid hne
        clear hne
        go_wp2
        go_quiet (fail)
        go_wp2
        go_ret
        exact ⟨_, rfl, ⟨fun h => (by cases h), fun h => absurd HN.out (h j (by omega) hlt)⟩, _, World.drewN_drewN _ _ _⟩
      · have d : ((S j).toList == (S i).toList) = false := by rw [Lib.toList_data, Lib.toList_data]; exact beq_false_of_ne hne
        have HN := hid hne
        clear hne
        go_wp2
        go_quiet (fail)
        go_wp2
        go_roundw
        case rel =>
          refine ⟨j + 1, by omega, by omega, by go_num, hid (fun q h1 h2 => ?_), _, rfl⟩
          by_cases e : q = j
          · subst e; exact HN.out
          · exact HE.out q h1 (by omega)
        case measure => simp [intOf]; omega
    · go_wp2
      go_ret
      exact ⟨_, rfl, ⟨fun _ q h1 h2 => HE.out q h1 (by omega), fun _ => rfl⟩, _, rfl⟩

/-- The key is the path up to the end of an element. -/
def ElemPre (k p : List UInt8) : Prop := k.length ≤ p.length ∧ p.take k.length = k ∧ (k.length = p.length ∨ p[k.length]? = some 47)

theorem ext_take (p k : ByteArray) : (p.extract 0 k.size).toList = p.data.toList.take k.data.toList.length := by
  rw [Lib.extract_toList, Lib.size_eq k]
  simp
theorem byte_at (p : ByteArray) {i : Nat} (h : i < p.size) : p.data.toList[i]? = some (p[i]'h) := by
  obtain ⟨⟨l⟩⟩ := p
  have h' : i < l.length := h
  show l[i]? = some l[i]
  simp [h']

set_option maxHeartbeats 1000000 in
theorem elem32 (k p : ByteArray) (w : World) (hk : k.size ≤ 9223372036854775807) (hp : p.size ≤ 9223372036854775807) : Calls Try.prog 32 #[.string k, .string p] w (SaysD w (ElemPre k.data.toList p.data.toList)) := by
  go_enter Try.func32, Try.ntmps32
  go_wp2
  · have h : p.size < k.size := by assumption
    go_ret
    exact ⟨_, rfl, ⟨fun h => (by cases h), fun h' => (by have := h'.1; rw [Lib.size_eq, Lib.size_eq] at h; omega)⟩, 0, rfl⟩
  · have h : (!(p.extract 0 k.size).toList == k.toList) = true := by assumption
    go_ret
    refine ⟨_, rfl, ⟨fun h => (by cases h), fun h' => ?_⟩, 0, rfl⟩
    rw [ext_take, Lib.toList_data, h'.2.1] at h
    simp at h
  · have h0 : ¬ p.size < k.size := by assumption
    have h : (!(p.extract 0 k.size).toList == k.toList) = false := by assumption
    have h1 : (k.size : Int) = (p.size : Int) := by assumption
    go_ret
    refine ⟨_, rfl, ⟨fun _ => ⟨?_, ?_, .inl ?_⟩, fun _ => rfl⟩, 0, rfl⟩
    · rw [Lib.size_eq, Lib.size_eq] at h0; omega
    · rw [ext_take, Lib.toList_data] at h
      simpa using h
    · rw [Lib.size_eq, Lib.size_eq] at h1; omega
  · have h0 : ¬ p.size < k.size := by assumption
    have h : (!(p.extract 0 k.size).toList == k.toList) = false := by assumption
    have h1 : ¬ (k.size : Int) = (p.size : Int) := by assumption
    have h2 : k.size < p.size := by assumption
    go_ret
    refine ⟨_, rfl, ?_, 0, rfl⟩
    have hb : ((k.size : Int) == (p.size : Int)) = false := by simpa using h1
    have hx := byte_at p h2
    have hl : k.size = k.data.toList.length := Lib.size_eq k
    have hl2 : p.size = p.data.toList.length := Lib.size_eq p
    show ((k.size : Int) == (p.size : Int) || (((p[k.size]'h2).toNat : Int) == 47)) = true ↔ _
    rw [hb, Bool.false_or]
    constructor
    · intro hc
      refine ⟨by omega, ?_, .inr ?_⟩
      · rw [ext_take, Lib.toList_data] at h
        simpa using h
      · rw [← hl, hx]
        have : (p[k.size]'h2) = 47 := UInt8.toNat_inj.1 (by have := eq_of_beq hc; simpa using (by omega : (p[k.size]'h2).toNat = 47))
        rw [this]
    · rintro ⟨_, _, h3 | h3⟩
      · omega
      · rw [← hl, hx] at h3
        have : (p[k.size]'h2) = 47 := Option.some.inj h3
        rw [this]
        decide
end Go.Proofs.Qxb6600159a
