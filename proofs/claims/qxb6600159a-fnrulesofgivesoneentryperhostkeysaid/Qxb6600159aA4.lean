import Derived.Test.Qxb6600159aA3
import Derived.LaidEqlPtr
namespace Go.Proofs.Qxb6600159a
open Go.RowKit Go.Maps
set_option linter.unusedVariables false

theorem Idx.mono {w : World} {X M1 M2 n n' : Nat} {g : Nat × List UInt8 → Option Nat} (h : Idx w X M1 M2 n g) (hn : n ≤ n') : Idx w X M1 M2 n' g := ⟨h.x0, h.x1, h.m1.mono hn, h.m2.mono hn, h.inj, h.new, h.ne⟩
theorem Keeps.refl (M1 M2 : Nat) (w : World) : Keeps M1 M2 w w := ⟨rfl, rfl, rfl, Nat.le_refl _, fun _ _ _ _ => rfl⟩

theorem cls_zero {l : List UInt8} (h : (cls l).1 = 0) : cls l = (0, []) := by
  unfold cls at h ⊢
  split
  · rfl
  · rename_i r
    simp at h
  · rename_i h1 h2
    split at h
    · rename_i h3; exact absurd rfl h1
    · simp at h
    · simp at h

theorem ptr_inj {w : World} {X M1 M2 n : Nat} {g : Nat × List UInt8 → Option Nat} (h : Idx w X M1 M2 n g) {l l' : List UInt8} {a : Addr} (h1 : ptrOf X g (cls l) = some a) (h2 : ptrOf X g (cls l') = some a) : cls l = cls l' := by
  by_cases e1 : (cls l).1 = 0
  · by_cases e2 : (cls l').1 = 0
    · rw [cls_zero e1, cls_zero e2]
    · exfalso
      simp only [ptrOf, e1, e2, if_true, if_false] at h1 h2
      cases h1
      simp at h2
  · by_cases e2 : (cls l').1 = 0
    · exfalso
      simp only [ptrOf, e1, e2, if_true, if_false] at h1 h2
      cases h2
      simp at h1
    · simp only [ptrOf, e1, e2, if_false, Option.map_eq_some_iff] at h1 h2
      obtain ⟨b, hb, rfl⟩ := h1
      obtain ⟨b', hb', e⟩ := h2
      simp at e
      subst e
      exact h.inj _ _ _ hb hb'

/-- What rulesOf does at whatever host. -/
def AnyPost (w : World) (X M1 M2 n : Nat) (g : Nat × List UInt8 → Option Nat) (c : Nat × List UInt8) (e : Ending) (w' : World) : Prop :=
  ∃ a g', e = .returned (.pointer (some a)) ∧ Idx w' X M1 M2 (n + 1) g' ∧ Keeps M1 M2 w w' ∧ ptrOf X g' c = some a ∧ (∀ c' a', ptrOf X g c' = some a' → ptrOf X g' c' = some a') ∧ (Boxes w X g → Boxes w' X g')

theorem zz37 (w : World) (X M1 M2 n : Nat) (g : Nat × List UInt8 → Option Nat) (hI : Idx w X M1 M2 n g) (hn : n < 100000) (s : ByteArray) (hs : s.size ≤ maxLen) :
    Calls Try.prog 37 #[.pointer (some ⟨X, 0, none⟩), .string s] w (AnyPost w X M1 M2 n g (cls s.data.toList)) := by
  cases ha : ptrOf X g (cls s.data.toList) with
  | some a =>
    refine (zz37_hit w X M1 M2 n g hI s hs a ha).mono fun e w' h => ?_
    obtain ⟨rfl, rfl⟩ := h
    exact ⟨a, g, rfl, hI.mono (by omega), Keeps.refl _ _ _, ha, fun _ _ h => h, fun h => h⟩
  | none =>
    refine (zz37_miss w X M1 M2 n g hI hn s hs ha).mono fun e w' h => ?_
    obtain ⟨rfl, h1, h2, h3⟩ := h
    have hc : ¬ (cls s.data.toList).1 = 0 := fun e => by simp [ptrOf, e] at ha
    refine ⟨_, _, rfl, h1, h2, by simp [ptrOf, hc, gAdd], fun c' a' hc' => ?_, h3⟩
    unfold ptrOf at hc' ⊢
    split at hc'
    · rename_i e; rw [if_pos e]; exact hc'
    · rename_i e
      rw [if_neg e]
      unfold gAdd
      split
      · rename_i e'
        subst e'
        simp [ptrOf, hc] at ha
        rw [ha] at hc'
        cases hc'
      · exact hc'

theorem Try.info49 : (Try.prog.info? 49).map (fun i => (i.zero, i.size, i.bytes)) = some (some (.pointer none), 1, 8) := by kernel_rfl

/-- Behind k rounds of the first loop. -/
def L1 (w1 : World) (X M1 M2 G n : Nat) (S : Nat → ByteArray) (i : Value) (wr : World) : Prop :=
  ∃ (k : Nat) (g : Nat × List UInt8 → Option Nat) (P : Nat → Addr), k ≤ n ∧ i = .int .i64 k ∧ Idx wr X M1 M2 k g ∧ wr.rowIs G 49 n (fun j => if j < k then .pointer (some (P j)) else .pointer none) ∧
    Hid (∀ j, j < k → ptrOf X g (cls (S j).data.toList) = some (P j)) ∧ Boxes wr X g ∧ Below w1.heap.size w1 wr

def pSet (P : Nat → Addr) (k : Nat) (a : Addr) (j : Nat) : Addr := if j = k then a else P j

theorem box_set {w : World} {X : Nat} {g : Nat × List UInt8 → Option Nat} (h : Boxes w X g) (p : Addr) (u : Value) : Boxes (w.setCell p u) X g := by
  have key : ∀ (b : Nat) (c : Array Value) (t : Nat), w.heap[b]? = some (Obj.cells c t (0, 0)) → ∃ c t, (w.setCell p u).heap[b]? = some (Obj.cells c t (0, 0)) := by
    intro b c t hb
    by_cases e : b = p.block
    · subst e
      cases hsp : p.spot.isSome
      · exact ⟨c.setIfInBounds p.off u, t, by simp [World.setCell, Array.getElem?_modify, hb, hsp]⟩
      · exact ⟨c, t, by simp [World.setCell, Array.getElem?_modify, hb, hsp]⟩
    · exact ⟨c, t, (Below.heap_setCell w p u b e).trans hb⟩
  obtain ⟨⟨c, t, e⟩, h2⟩ := h
  exact ⟨key _ c t e, fun q b hq => (let ⟨c, t, e⟩ := h2 q b hq; key b c t e)⟩

theorem L1_next {w1 wr w' : World} {X M1 M2 G n k : Nat} {S : Nat → ByteArray} {g g' : Nat × List UInt8 → Option Nat} {P : Nat → Addr} {a : Addr} (hk : k < n) (hG : G ≠ X ∧ G ≠ M1 ∧ G ≠ M2) (hB : w1.heap.size ≤ M1 ∧ w1.heap.size ≤ M2 ∧ w1.heap.size ≤ G)
    (hrow : wr.rowIs G 49 n (fun j => if j < k then .pointer (some (P j)) else .pointer none)) (hp : ∀ j, j < k → ptrOf X g (cls (S j).data.toList) = some (P j)) (hb : Below w1.heap.size w1 wr)
    (hI : Idx w' X M1 M2 (k + 1) g') (hK : Keeps M1 M2 wr w') (ha : ptrOf X g' (cls (S k).data.toList) = some a) (hm : ∀ c' a', ptrOf X g c' = some a' → ptrOf X g' c' = some a') (hbx : Boxes w' X g') :
    w'.rowIs G 49 n (fun j => if j < k then .pointer (some (P j)) else .pointer none) ∧
    (w'.setCell ⟨G, k, none⟩ (.pointer (some a))).rowIs G 49 n (fun j => if j < k + 1 then .pointer (some (pSet P k a j)) else .pointer none) ∧ L1 w1 X M1 M2 G n S (.int .i64 ((k + 1 : Nat) : Int)) (w'.setCell ⟨G, k, none⟩ (.pointer (some a))) := by
  have r1 : w'.rowIs G 49 n (fun j => if j < k then .pointer (some (P j)) else .pointer none) := hrow.of_block (hK.block G hrow.lt hG.2.1 hG.2.2)
  have r2 : (w'.setCell ⟨G, k, none⟩ (.pointer (some a))).rowIs G 49 n (fun j => if j < k + 1 then .pointer (some (pSet P k a j)) else .pointer none) := by
    refine (r1.set k _).congr fun j hj => ?_
    by_cases e : j = k
    · subst e; simp [pSet]
    · rw [if_neg e]
      by_cases e2 : j < k
      · rw [if_pos e2, if_pos (by omega)]; simp [pSet, e]
      · rw [if_neg e2, if_neg (by omega)]
  have hs : (w'.setCell ⟨G, k, none⟩ (.pointer (some a))).heap.size = w'.heap.size := by simp
  refine ⟨r1, r2, k + 1, g', pSet P k a, by omega, rfl, hI.kept (by omega) (Below.heap_setCell _ _ _ _ hG.1.symm) (Below.heap_setCell _ _ _ _ hG.2.1.symm) (Below.heap_setCell _ _ _ _ hG.2.2.symm), r2, ?_, box_set hbx _ _, (hK.below hb hb.size hB.1 hB.2.1).setCell hB.2.2 _⟩
  intro j hj
  by_cases e : j = k
  · subst e; simpa [pSet] using ha
  · rw [hm _ _ (hp j (by omega))]; simp [pSet, e]

theorem law_start {w1 w2 : World} {X M1 M2 n : Nat} {S : Nat → ByteArray} (hI : Idx w2 X M1 M2 0 (fun _ => none)) (hbx : Boxes w2 X (fun _ => none)) (hb : Below w1.heap.size w1 w2) : L1 w1 X M1 M2 w2.heap.size n S (.int .i64 0) (w2.alloc (.cells (madeCells #[.pointer none] n) 49)) := by
  refine ⟨0, fun _ => none, fun _ => ⟨0, 0, none⟩, Nat.zero_le _, rfl, ?_, (World.rowIs_made w2 _ n 49).congr (fun i hi => by simp), hid (fun j hj => by omega), ⟨?_, fun q b h => (by cases h)⟩, hb.alloc hb.size _⟩
  rotate_left
  · obtain ⟨c, t, e⟩ := hbx.1
    exact ⟨c, t, (Below.heap_alloc _ _ _ hI.lt).trans e⟩
  have := hI.lt
  have h1 := hI.m1.lt
  have h2 := hI.m2.lt
  exact hI.kept (by simp) (Below.heap_alloc _ _ _ this) (Below.heap_alloc _ _ _ h1) (Below.heap_alloc _ _ _ h2)

theorem Try.info63 : (Try.prog.info? 63).map (fun i => i.size) = some 3 := by kernel_rfl

theorem eql49 (w : World) (a b : Addr) {ca cb : Array Value} {ta tb : Nat} (ha : w.heap[a.block]? = some (.cells ca ta (0, 0))) (hb : w.heap[b.block]? = some (.cells cb tb (0, 0))) :
    (binOp .eql 49 (.pointer (some a)) (.pointer (some b))).run Try.prog w = .ok (.bool (decide (a = b))) w := by
  obtain ⟨j, hj, hz⟩ := Option.map_eq_some_iff.1 Try.info63
  by_cases e : a = b
  · subst e
    rw [run_eql_ptr_same w a Try.underlying49 hj]
    simp
  · rw [run_eql_ptr_other w Try.underlying49 hj (by omega) e ha hb]
    simp [e]

theorem neq49 (w : World) (a : Addr) : (binOp .neq 49 (.pointer (some a)) (.pointer (some a))).run Try.prog w = .ok (.bool false) w := by
  obtain ⟨j, hj, hz⟩ := Option.map_eq_some_iff.1 Try.info63
  have h : ∀ d : Nat, (Op.equalIn (d + 1) 49 (.pointer (some a)) (.pointer (some a))).run Try.prog w = .ok true w := fun d => by
    simp [Op.equalIn, run_underlying Try.underlying49, sizeOf, typeInfo, hj, run_sameAddr_same]
  simp only [binOp]
  simp [Op.equal, Op.maxDepth, h 9999]

theorem ptr_box {w : World} {X : Nat} {g : Nat × List UInt8 → Option Nat} (h : Boxes w X g) {c : Nat × List UInt8} {a : Addr} (ha : ptrOf X g c = some a) : ∃ c t, w.heap[a.block]? = some (.cells c t (0, 0)) := by
  unfold ptrOf at ha
  split at ha
  · cases ha; exact h.1
  · obtain ⟨b, hb, rfl⟩ := Option.map_eq_some_iff.1 ha
    exact h.2 _ b hb

theorem neqBool (w : World) (a b : Bool) : (binOp .neq 4 (.bool a) (.bool b)).run Try.prog w = .ok (.bool (!(a == b))) w := by
  have h : ∀ d : Nat, (Op.equalIn (d + 1) 4 (.bool a) (.bool b)).run Try.prog w = .ok (a == b) w := fun d => by
    simp [Op.equalIn, run_underlying Try.underlying4]
  simp only [binOp]
  simp [Op.equal, Op.maxDepth, h 9999]
end Go.Proofs.Qxb6600159a
