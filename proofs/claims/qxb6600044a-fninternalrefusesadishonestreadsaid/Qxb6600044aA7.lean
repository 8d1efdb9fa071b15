import Derived.Test.Qxb6600044aA6
import Derived.Deep.CutBlock
import Derived.Deep.DeepCutAuto
namespace Go.Proofs.Qxb6600044a
open Go.RowKit
set_option linter.unusedVariables false

/-- The micro-operations and their links as they lie in the world. -/
structure Mops (w : World) (bm bp n : Nat) (K : Nat → Int) (R : Nat → Bool) (E : Nat → Int) (W : Nat → Value) (L : Nat → Nat) (Z : Nat → Nat → Int) : Prop where
  c0 : ∀ p, p < n → w.cell? ⟨bm, p * 4, none⟩ = some (.bool (R p))
  c1 : ∀ p, p < n → w.cell? ⟨bm, p * 4 + 1, none⟩ = some (.string (keyStr (K p)))
  c2 : ∀ p, p < n → R p = false → w.cell? ⟨bm, p * 4 + 2, none⟩ = some (.int .i64 (E p))
  c3 : ∀ p, p < n → w.cell? ⟨bm, p * 4 + 3, none⟩ = some (W p)
  pv : ∀ p, p < n → w.cell? ⟨bp, p, none⟩ = some (.int .i64 (lastOf K (K p % 4) p))
  inner : ∀ p, p < n → R p = true → Ints 0 w (W p) (L p) (Z p)
  kb : ∀ i, 0 ≤ K i ∧ K i ≤ 255

theorem Mops.later {w w' : World} {bm bp n : Nat} {K : Nat → Int} {R : Nat → Bool} {E : Nat → Int} {W : Nat → Value} {L : Nat → Nat} {Z : Nat → Nat → Int} (h : Mops w bm bp n K R E W L Z) (hb : Below w.heap.size w w') :
    Mops w' bm bp n K R E W L Z :=
  ⟨fun p hp => cell_later hb (h.c0 p hp), fun p hp => cell_later hb (h.c1 p hp), fun p hp hr => cell_later hb (h.c2 p hp hr), fun p hp => cell_later hb (h.c3 p hp), fun p hp => cell_later hb (h.pv p hp), fun p hp hr => (h.inner p hp hr).later hb, h.kb⟩

/-- The cells of the zero Anomaly. -/
def anZ : Array Value := #[.string ⟨#[]⟩, .int .i64 0, .int .i64 0, .string ⟨#[]⟩, .int .i64 0, .int .i64 0, .int .i64 0, .int .i64 0, .slice none 0 0, .slice none 0 0, .slice none 0 0, .slice none 0 0, .slice none 0 0]

/-- Inside the call: the boxed transaction and the result's cell. -/
structure InSt (w w1 : World) (iv0 cp : Int) (bm n cm : Nat) : Prop where
  below : Below w.heap.size w w1
  size : w.heap.size + 2 ≤ w1.heap.size
  t0 : w1.cell? ⟨w.heap.size, 0, none⟩ = some (.int .i64 iv0)
  t1 : w1.cell? ⟨w.heap.size, 1, none⟩ = some (.int .i64 cp)
  t4 : w1.cell? ⟨w.heap.size, 4, none⟩ = some (.slice (some ⟨bm, 0, none⟩) n cm)
  res : w1.heap[w.heap.size + 1]? = some (.cells anZ 56 (0, 0))

theorem InSt.later {w w1 w' : World} {iv0 cp : Int} {bm n cm : Nat} (h : InSt w w1 iv0 cp bm n cm) (hb : Below (w.heap.size + 2) w1 w') : InSt w w' iv0 cp bm n cm :=
  ⟨h.below.trans (hb.mono (by omega)), Nat.le_trans h.size hb.size, (hb.cell (p := ⟨w.heap.size, 0, none⟩) (by simp)).trans h.t0, (hb.cell (p := ⟨w.heap.size, 1, none⟩) (by simp)).trans h.t1,
    (hb.cell (p := ⟨w.heap.size, 4, none⟩) (by simp)).trans h.t4, (hb.block _ (by omega)).trans h.res⟩

theorem inSt_start (w : World) (iv0 cp pr : Int) (oc : ByteArray) (bm n cm : Nat) :
    InSt w ((w.alloc (.cells #[.int .i64 iv0, .int .i64 cp, .int .i64 pr, .string oc, .slice (some ⟨bm, 0, none⟩) n cm] 51)).alloc (.cells anZ 56)) iv0 cp bm n cm := by
  refine ⟨((Below.refl _ _).alloc (Nat.le_refl _) _).alloc (by simp) _, by simp, ?_, ?_, ?_, ?_⟩
  · exact cell_alloc (w := w.alloc _) (a := ⟨w.heap.size, 0, none⟩) (by simp) _
  · exact cell_alloc (w := w.alloc _) (a := ⟨w.heap.size, 1, none⟩) (by simp) _
  · exact cell_alloc (w := w.alloc _) (a := ⟨w.heap.size, 4, none⟩) (by simp) _
  · have e : (w.alloc (.cells #[.int .i64 iv0, .int .i64 cp, .int .i64 pr, .string oc, .slice (some ⟨bm, 0, none⟩) n cm] 51)).heap.size = w.heap.size + 1 := by simp
    rw [← e]
    exact heap_alloc_new _ _

theorem resF {w : World} {b : Nat} {c : Array Value} {t : Nat} (h : w.heap[b]? = some (.cells c t (0, 0))) (i : Nat) : w.frozen? ⟨b, i, none⟩ = false := by simp [World.frozen?, h]
theorem resC {w : World} {b : Nat} {c : Array Value} {t : Nat} (h : w.heap[b]? = some (.cells c t (0, 0))) (i : Nat) (v : Value) (hi : c[i]? = some v) : w.cell? ⟨b, i, none⟩ = some v := by simp [World.cell?, h, hi]

theorem setCell_heap {w : World} {b : Nat} {c : Array Value} {t : Nat} (h : w.heap[b]? = some (.cells c t (0, 0))) (i : Nat) (v : Value) : (w.setCell ⟨b, i, none⟩ v).heap[b]? = some (.cells (c.setIfInBounds i v) t (0, 0)) := by
  simp [World.setCell, Array.getElem?_modify, h]

/-- The thirteen stores that lay an Anomaly into the result's block. -/
theorem put13_heap {w : World} {b : Nat} (h : w.heap[b]? = some (.cells anZ 56 (0, 0))) (v0 v1 v2 v3 v4 v5 v6 v7 v8 v9 v10 v11 v12 : Value) :
    (((((((((((((w.setCell ⟨b, 0, none⟩ v0).setCell ⟨b, 1, none⟩ v1).setCell ⟨b, 2, none⟩ v2).setCell ⟨b, 3, none⟩ v3).setCell ⟨b, 4, none⟩ v4).setCell ⟨b, 5, none⟩ v5).setCell ⟨b, 6, none⟩ v6).setCell ⟨b, 7, none⟩ v7).setCell ⟨b, 8, none⟩ v8).setCell ⟨b, 9, none⟩ v9).setCell ⟨b, 10, none⟩ v10).setCell ⟨b, 11, none⟩ v11).setCell ⟨b, 12, none⟩ v12).heap[b]? = some (.cells #[v0, v1, v2, v3, v4, v5, v6, v7, v8, v9, v10, v11, v12] 56 (0, 0)) := by
  have h := setCell_heap (setCell_heap (setCell_heap (setCell_heap (setCell_heap (setCell_heap (setCell_heap (setCell_heap (setCell_heap (setCell_heap (setCell_heap (setCell_heap (setCell_heap h 0 v0) 1 v1) 2 v2) 3 v3) 4 v4) 5 v5) 6 v6) 7 v7) 8 v8) 9 v9) 10 v10) 11 v11) 12 v12
  rw [h]
  simp [anZ]

theorem put13_below {B : Nat} {u w : World} {b : Nat} (h : Below B u w) (hb : B ≤ b) (v0 v1 v2 v3 v4 v5 v6 v7 v8 v9 v10 v11 v12 : Value) :
    Below B u (((((((((((((w.setCell ⟨b, 0, none⟩ v0).setCell ⟨b, 1, none⟩ v1).setCell ⟨b, 2, none⟩ v2).setCell ⟨b, 3, none⟩ v3).setCell ⟨b, 4, none⟩ v4).setCell ⟨b, 5, none⟩ v5).setCell ⟨b, 6, none⟩ v6).setCell ⟨b, 7, none⟩ v7).setCell ⟨b, 8, none⟩ v8).setCell ⟨b, 9, none⟩ v9).setCell ⟨b, 10, none⟩ v10).setCell ⟨b, 11, none⟩ v11).setCell ⟨b, 12, none⟩ v12) :=
  ((((((((((((h.setCell (p := ⟨b, 0, none⟩) hb v0).setCell (p := ⟨b, 1, none⟩) hb v1).setCell (p := ⟨b, 2, none⟩) hb v2).setCell (p := ⟨b, 3, none⟩) hb v3).setCell (p := ⟨b, 4, none⟩) hb v4).setCell (p := ⟨b, 5, none⟩) hb v5).setCell (p := ⟨b, 6, none⟩) hb v6).setCell (p := ⟨b, 7, none⟩) hb v7).setCell (p := ⟨b, 8, none⟩) hb v8).setCell (p := ⟨b, 9, none⟩) hb v9).setCell (p := ⟨b, 10, none⟩) hb v10).setCell (p := ⟨b, 11, none⟩) hb v11).setCell (p := ⟨b, 12, none⟩) hb v12

theorem put13_arr {w : World} {b : Nat} {a : Option Addr} {n : Nat} {f : Nat → Value} (h : Arr w a n f) (ha : AddrFrom (b + 1) a) (v0 v1 v2 v3 v4 v5 v6 v7 v8 v9 v10 v11 v12 : Value) :
    Arr (((((((((((((w.setCell ⟨b, 0, none⟩ v0).setCell ⟨b, 1, none⟩ v1).setCell ⟨b, 2, none⟩ v2).setCell ⟨b, 3, none⟩ v3).setCell ⟨b, 4, none⟩ v4).setCell ⟨b, 5, none⟩ v5).setCell ⟨b, 6, none⟩ v6).setCell ⟨b, 7, none⟩ v7).setCell ⟨b, 8, none⟩ v8).setCell ⟨b, 9, none⟩ v9).setCell ⟨b, 10, none⟩ v10).setCell ⟨b, 11, none⟩ v11).setCell ⟨b, 12, none⟩ v12) a n f :=
  ((((((((((((h.setCell (p := ⟨b, 0, none⟩) ha v0).setCell (p := ⟨b, 1, none⟩) ha v1).setCell (p := ⟨b, 2, none⟩) ha v2).setCell (p := ⟨b, 3, none⟩) ha v3).setCell (p := ⟨b, 4, none⟩) ha v4).setCell (p := ⟨b, 5, none⟩) ha v5).setCell (p := ⟨b, 6, none⟩) ha v6).setCell (p := ⟨b, 7, none⟩) ha v7).setCell (p := ⟨b, 8, none⟩) ha v8).setCell (p := ⟨b, 9, none⟩) ha v9).setCell (p := ⟨b, 10, none⟩) ha v10).setCell (p := ⟨b, 11, none⟩) ha v11).setCell (p := ⟨b, 12, none⟩) ha v12

/-- The result's block read back. -/
theorem read13 {w : World} {b : Nat} {v0 v1 v2 v3 v4 v5 v6 v7 v8 v9 v10 v11 v12 : Value} (h : w.heap[b]? = some (.cells #[v0, v1, v2, v3, v4, v5, v6, v7, v8, v9, v10, v11, v12] 56 (0, 0))) :
    w.cell? ⟨b, 0, none⟩ = some v0 ∧ w.cell? ⟨b, 1, none⟩ = some v1 ∧ w.cell? ⟨b, 2, none⟩ = some v2 ∧ w.cell? ⟨b, 3, none⟩ = some v3 ∧ w.cell? ⟨b, 4, none⟩ = some v4 ∧ w.cell? ⟨b, 5, none⟩ = some v5 ∧ w.cell? ⟨b, 6, none⟩ = some v6 ∧ w.cell? ⟨b, 7, none⟩ = some v7 ∧ w.cell? ⟨b, 8, none⟩ = some v8 ∧ w.cell? ⟨b, 9, none⟩ = some v9 ∧ w.cell? ⟨b, 10, none⟩ = some v10 ∧ w.cell? ⟨b, 11, none⟩ = some v11 ∧ w.cell? ⟨b, 12, none⟩ = some v12 :=
  ⟨resC h 0 _ rfl, resC h 1 _ rfl, resC h 2 _ rfl, resC h 3 _ rfl, resC h 4 _ rfl, resC h 5 _ rfl, resC h 6 _ rfl, resC h 7 _ rfl, resC h 8 _ rfl, resC h 9 _ rfl, resC h 10 _ rfl, resC h 11 _ rfl, resC h 12 _ rfl⟩

/-- The lists' integers of the read that is the last one. -/
def befL (L : Nat → Nat) : Option Nat → Nat
  | none => 0
  | some p => L p
def befZ (Z : Nat → Nat → Int) : Option Nat → Nat → Int
  | none => fun _ => 0
  | some p => Z p

/-- The list holds 'before' at its head and 'since' at its end. -/
def Fits (ll : Nat) (zl : Nat → Int) (lb : Nat) (zb : Nat → Int) (S : List Int) : Prop :=
  lb + S.length ≤ ll ∧ (∀ i, i < lb → zl i = zb i) ∧ ∀ i, i < S.length → zl (ll - S.length + i) = S.getD i 0

/-- The elements of the list at those of the first k positions of O that lie in [lo, hi). -/
def btw (zl : Nat → Int) (lo hi : Int) (O : Nat → Int) : Nat → List Int
  | 0 => []
  | k + 1 => if lo ≤ O k ∧ O k < hi then btw zl lo hi O k ++ [zl (O k).toNat] else btw zl lo hi O k

def intStr : ByteArray := ⟨#[105, 110, 116, 101, 114, 110, 97, 108]⟩

/-- What 'internal' returns. -/
def InternalPost (w : World) (iv0 cp : Int) (kj : Int) (j : Nat) (vl : Value) (ll : Nat) (zl : Nat → Int) (vb : Value) (lb : Nat) (zb : Nat → Int) (S : List Int) (no : Nat) (O : Nat → Int) (e : Ending) (w' : World) : Prop :=
  Below w.heap.size w w' ∧
  ((e = .returned (.tuple #[.agg anZ, .bool false]) ∧ ((lb = 0 ∧ S.length = 0 ∧ no = 0) ∨ (Fits ll zl lb zb S ∧ btw zl lb ((ll : Int) - S.length) O no = []))) ∨
   (∃ vs vo, e = .returned (.tuple #[.agg #[.string intStr, .int .i64 iv0, .int .i64 cp, .string (keyStr kj), .int .i64 0, .int .i64 0, .int .i64 0, .int .i64 (j : Int), vl, vb, vs, vo, .slice none 0 0], .bool true]) ∧
     ¬ (lb = 0 ∧ S.length = 0 ∧ no = 0) ∧ Ints w.heap.size w' vs S.length (fun i => S.getD i 0) ∧
     ((Fits ll zl lb zb S ∧ btw zl lb ((ll : Int) - S.length) O no ≠ [] ∧ Ints w.heap.size w' vo (btw zl lb ((ll : Int) - S.length) O no).length (fun i => (btw zl lb ((ll : Int) - S.length) O no).getD i 0)) ∨ (¬ Fits ll zl lb zb S ∧ vo = .slice none 0 0))))

theorem Arr.take {w : World} {a : Option Addr} {n m : Nat} {f : Nat → Value} (h : Arr w a n f) (hm : m ≤ n) : Arr w a m f := by
  refine ⟨Nat.le_trans hm h.1, ?_⟩
  rcases h.2 with h0 | ⟨b, off, rfl, hc⟩
  · exact .inl (by omega)
  · exact .inr ⟨b, off, rfl, fun i hi => hc i (by omega)⟩

theorem Arr.drewN {w : World} {a : Option Addr} {n : Nat} {f : Nat → Value} (h : Arr w a n f) (m : Nat) : Arr (w.drewN m) a n f := h

theorem fits_iff {ll lb : Nat} {zl zb : Nat → Int} {S : List Int} {b2 : Bool} (hfit : lb + S.length ≤ ll) (h1 : True ↔ Same lb lb zl zb)
    (h2 : b2 = true ↔ Same (ll - (ll - S.length)) S.length (fun i => zl (ll - S.length + i)) (fun i => S.getD i 0)) : b2 = true ↔ Fits ll zl lb zb S := by
  have h1 := (h1.1 trivial).2
  refine h2.trans ⟨fun h => ⟨hfit, h1, fun i hi => h.2 i (by omega)⟩, fun h => ⟨by omega, fun i hi => h.2.2 i (by omega)⟩⟩

theorem btw_in {zl : Nat → Int} {lo hi : Int} {O : Nat → Int} {k : Nat} (h : lo ≤ O k ∧ O k < hi) : btw zl lo hi O (k + 1) = btw zl lo hi O k ++ [zl (O k).toNat] := by simp [btw, h]
theorem btw_out {zl : Nat → Int} {lo hi : Int} {O : Nat → Int} {k : Nat} (h : ¬ (lo ≤ O k ∧ O k < hi)) : btw zl lo hi O (k + 1) = btw zl lo hi O k := by rw [btw, if_neg h]
theorem btw_len (zl : Nat → Int) (lo hi : Int) (O : Nat → Int) (k : Nat) : (btw zl lo hi O k).length ≤ k := by
  induction k with
  | zero => simp [btw]
  | succ k ih =>
    by_cases h : lo ≤ O k ∧ O k < hi
    · rw [btw_in h]; simp; omega
    · rw [btw_out h]; omega

/-- Where the way back ends: before the script's beginning, or at a read. -/
def Ended (K : Nat → Int) (R : Nat → Bool) (E : Nat → Int) (j : Nat) (q : Int) (s : List Int) : Prop :=
  (q < 0 ∧ fwd K R E (K j % 4) j = (none, s.reverse)) ∨ ∃ p : Nat, q = p ∧ p < j ∧ R p = true ∧ fwd K R E (K j % 4) j = (some p, s.reverse)

theorem ended_len {K : Nat → Int} {R : Nat → Bool} {E : Nat → Int} {j : Nat} {q : Int} {s : List Int} (h : Ended K R E j q s) : s.length ≤ j := by
  have := fwd_len K R E (K j % 4) j
  rcases h with ⟨_, e⟩ | ⟨p, _, _, _, e⟩
  · rw [e] at this; simpa using this
  · rw [e] at this; simpa using this

theorem addPlain (b o i : Nat) : (⟨b, o, none⟩ : Addr).add i = ⟨b, o + i, none⟩ := by unfold Addr.add; split <;> simp_all

/-- An owned row of integers, as a slice that can be read. -/
theorem own_ints {w : World} {B t : Nat} {v : Value} {xs : List Int} (h : w.ownsRow B t 1 v xs.length (iv xs)) (hl : xs.length ≤ 9223372036854775807) :
    ∃ a c, v = .slice a xs.length c ∧ Arr w a xs.length (fun i => .int .i64 (xs.getD i 0)) ∧ AddrFrom B a := by
  rcases h.2 with ⟨rfl, h0⟩ | ⟨g, cap, cur, rfl, hb, hg, hnc, hcm, hcs, htake⟩
  · exact ⟨none, 0, by rw [h0], ⟨hl, .inl h0⟩, AddrFrom.none _⟩
  · refine ⟨some ⟨g, 0, none⟩, cap, rfl, ⟨hl, .inr ⟨g, 0, rfl, fun i hi => ?_⟩⟩, AddrFrom.some hb⟩
    have := h.cells (g := g) rfl i _ (iv_getElem? xs i hi)
    rw [addPlain] at this
    simpa using this

set_option maxRecDepth 100000 in
set_option maxHeartbeats 1000000 in
theorem internal45 (iv0 cp pr : Int) (oc : ByteArray) (bm bp n cm cq : Nat) (K : Nat → Int) (R : Nat → Bool) (E : Nat → Int) (W : Nat → Value) (L : Nat → Nat) (Z : Nat → Nat → Int) (j : Nat) (ao : Option Addr) (no co : Nat) (O : Nat → Int) (w : World)
    (bl ll cl : Nat) (M : Mops w bm bp n K R E W L Z) (hO : Arr w ao no fun i => .int .i64 (O i)) (hj : j < n) (hn : n ≤ 65536) (hR : R j = true) (hWj : W j = .slice (some ⟨bl, 0, none⟩) ll cl) (hlc : ll ≤ cl) (hLj : L j = ll) (hll : ll ≤ 4000000) (hno : no ≤ 4000000) (bi : Option Nat) (S : List Int) (hf : fwd K R E (K j % 4) j = (bi, S)) :
    Calls Try.prog 45 #[.agg #[.int .i64 iv0, .int .i64 cp, .int .i64 pr, .string oc, .slice (some ⟨bm, 0, none⟩) n cm], .slice (some ⟨bp, 0, none⟩) n cq, .int .i64 (j : Int), .slice ao no co] w
      (InternalPost w iv0 cp (K j) j (W j) ll (Z j) (befV W bi) (befL L bi) (befZ Z bi) S no O) := by
  have HF := hid hf
  clear hf
  obtain ⟨i0, hi, hz0, hz1, hz2⟩ := info_parts Try.info2
  have hp0 := fun o o' => cell_alloc (cell_alloc (M.pv j hj) o) o'
  have hst := inSt_start w iv0 cp pr oc bm n cm
  go_enter Try.func45, Try.ntmps45
  go_upto_block 0 with fail
  clear hp0
  rw [show (#[Value.string ⟨#[]⟩, .int .i64 0, .int .i64 0, .string ⟨#[]⟩, .int .i64 0, .int .i64 0, .int .i64 0, .int .i64 0, .slice none 0 0, .slice none 0 0, .slice none 0 0, .slice none 0 0, .slice none 0 0] : Array Value) = anZ from rfl]
  generalize hW1 : (w.alloc (.cells #[.int .i64 iv0, .int .i64 cp, .int .i64 pr, .string oc, .slice (some ⟨bm, 0, none⟩) n cm] 51)).alloc (.cells anZ 56) = w1 at hst ⊢
  clear hW1
  go_cut [10, 11] (fun vs p wr => ∃ (q : Int) (s : List Int), p = .int .i64 q ∧ Ended K R E j q s ∧ wr.ownsRow (w.heap.size + 2) 2 1 vs s.length (iv s) ∧ Below (w.heap.size + 2) w1 wr)
  case first =>
    go_wp2_with fail
    go_loopw [10, 11] (fun vs p wr => ∃ (q : Int) (s : List Int), p = .int .i64 q ∧ Back K R E (K j % 4) j q s ∧ wr.ownsRow (w.heap.size + 2) 2 1 vs s.length (iv s) ∧ Below (w.heap.size + 2) w1 wr) (fun _ p _ => (intOf p + 1).toNat)
    case atStart => exact ⟨_, [], rfl, back_start K R E (K j % 4) j, World.ownsRow_nil _ _ _ _, Below.refl _ _⟩
    case round =>
      obtain ⟨q, s, rfl, hback, hown, hbel⟩ := hrel
      have Mr := M.later ((hst.later hbel).below)
      have ht4 := (hst.later hbel).t4
      by_cases hq : 0 ≤ q
      · obtain ⟨p, rfl⟩ := Int.eq_ofNat_of_zero_le hq
        have hpj : p < j := by have := hback.2.1; omega
        have hpn : p < n := by omega
        have cR := Mr.c0 p hpn
        cases hRp : R p
        · rw [hRp] at cR
          have cE := Mr.c2 p hpn hRp
          have cP := Mr.pv p hpn
          have hlen := back_len _ _ _ _ _ _ _ hback
          have hstep := back_step K R E (K j % 4) j p s hback hRp
          have hkey : K p % 4 = K j % 4 := by simpa using hback.2.2.1 (by omega)
          have HS := hid hstep
          have HQ := hid hkey
          clear hstep hkey cP
          go_wp2_with (first
            | (at_builtin; refine wpList_append_own _ rfl _ _ 32 rfl (w.heap.size + 2) 2 i0 (.int .i64 0) 1 8 Try.underlying32 hi hz0 hz1 hz2 rfl (by decide) _ _ _ rfl (hown.alloc _) ⟨wr.heap.size, 0, none⟩ 1 1 [.int .i64 (E p)] rfl rfl ?c1 ?c2 ?c3 ?c4 ?c5 ?_)
            | go_in)
          case c1 => exact cell_one_new _ _ _
          case c2 => intro u hu; simp at hu; subst hu; rfl
          case c3 => unfold maxLen; omega
          case c4 => omega
          case c5 => have := hbel.size; have := hst.size; simp; omega
          intro v' w2 hown' hgrow _
          obtain ⟨hown1, hbel1⟩ := own_app hbel hst.size hown hown' hgrow
          have cP := (M.later ((hst.later hbel1).below)).pv p hpn
          rw [HQ.out] at cP
          clear hown' hgrow hown Mr cR cE hbel hback ht4
          go_wp2
          go_roundw
          case rel => exact ⟨_, _, rfl, HS.out, hown1, hbel1⟩
          case measure => have := (lastOf_lt K (K j % 4) p); simp [intOf]; omega
        · rw [hRp] at cR
          have hend : Ended K R E j p s := .inr ⟨p, rfl, hpj, hRp, back_read _ _ _ _ _ _ _ hback hRp⟩
          clear Mr
          go_wp2
          go_meet
          case rel => exact ⟨_, _, rfl, hend, hown, hbel⟩
      · have hend : Ended K R E j q s := .inl ⟨by omega, back_none _ _ _ _ _ _ _ hback (by omega)⟩
        clear Mr
        go_wp2
        go_meet
        case rel => exact ⟨_, _, rfl, hend, hown, hbel⟩
  case rest =>
    obtain ⟨q, s, rfl, hend, hown, hbel⟩ := hcut
    have hsl := ended_len hend
    go_wp2_with fail
    refine (rev_own _ _ _ s hown (by omega)).mono ?_
    rintro e w2 ⟨rfl, hown2, hgr⟩
    have hbel2 : Below (w.heap.size + 2) w1 w2 := hbel.grown hgr (Nat.le_trans hst.size hbel.size) (fun k hk => (hown.lt k hk).1)
    have hS : S = s.reverse := by
      have hf := HF.out
      rcases hend with ⟨_, e⟩ | ⟨p, _, _, _, e⟩ <;> (rw [hf] at e; exact (Prod.mk.injEq _ _ _ _ ▸ e).2)
    rw [← hS] at hown2
    have hSl : S.length ≤ j := by rw [hS]; simpa using hsl
    obtain ⟨va, vc, hv, hSA, hSF⟩ := own_ints hown2 (by omega)
    rw [hv]
    have HV := hid hv
    have HS := hid hS
    clear hown hgr hbel hv hS
    have st2 := hst.later hbel2
    have M2 := M.later st2.below
    go_upto_if 49 with fail
    go_cut [12] (fun vb wc => ∃ ab cb, vb = .slice ab (befL L bi) cb ∧ vb = befV W bi ∧ Arr wc ab (befL L bi) (fun t => .int .i64 (befZ Z bi t)) ∧ wc = w2)
    case first =>
      rcases hend with ⟨hq, hf⟩ | ⟨p, rfl, hp, hRp, hf⟩
      · have e1 : bi = none := by
          have hf' := HF.out
          rw [hf] at hf'
          exact (congrArg Prod.fst hf').symm
        have HF1 := hid e1
        clear e1 hf
        go_wp2
        go_meet
        case rel => rw [HF1.out]; exact ⟨none, 0, rfl, rfl, ⟨by simp [befL], .inl rfl⟩, rfl⟩
      · have e1 : bi = some p := by
          have hf' := HF.out
          rw [hf] at hf'
          exact (congrArg Prod.fst hf').symm
        have HF1 := hid e1
        have ht4 := st2.t4
        have c3 := M2.c3 p (by omega)
        obtain ⟨ap, cp', hvp, hap, _⟩ := M2.inner p (by omega) hRp
        rw [hvp] at c3
        have HVP := hid hvp
        have hpn : (p : Int) < n := by omega
        clear e1 hf hvp M2 st2
        go_wp2
        go_meet
        case rel => rw [HF1.out]; exact ⟨ap, cp', rfl, HVP.out.symm, hap, rfl⟩
    case rest =>
      obtain ⟨ab, cb, rfl, hvb, hab, rfl⟩ := hcut
      have HVB := hid hvb
      clear hvb
      generalize hlbe : befL L bi = lb at hab ⊢
      have HLB := hid hlbe
      clear hlbe
      have hlb := hab.1
      go_upto_region 10 with fail
      go_cut [68] (fun b wr => b = .bool (decide (lb = 0 ∧ S.length = 0 ∧ no = 0)) ∧ wr = wc)
      case first =>
        by_cases e1 : lb = 0
        · by_cases e2 : S.length = 0
          · have b1 : ((lb : Int) == 0) = true := by simp [e1]
            have b2 : ((S.length : Int) == 0) = true := by simp [e2]
            have ed : decide (lb = 0 ∧ S.length = 0 ∧ no = 0) = ((no : Int) == 0) := by rw [Bool.eq_iff_iff]; simp [e1, e2]
            have HD := hid ed
            clear ed
            go_wp2
            go_meet
            case rel => exact ⟨by rw [HD.out], rfl⟩
          · have b1 : ((lb : Int) == 0) = true := by simp [e1]
            have b2 : ((S.length : Int) == 0) = false := beq_eq_false_iff_ne.2 (by omega)
            have ed : decide (lb = 0 ∧ S.length = 0 ∧ no = 0) = false := by simp [e2]
            have HD := hid ed
            clear ed
            go_wp2
            go_meet
            case rel => exact ⟨by rw [HD.out], rfl⟩
        · have b1 : ((lb : Int) == 0) = false := by simp; omega
          have ed : decide (lb = 0 ∧ S.length = 0 ∧ no = 0) = false := by simp [e1]
          have HD := hid ed
          clear ed
          go_wp2
          go_meet
          case rel => exact ⟨by rw [HD.out], rfl⟩
      case rest =>
        obtain ⟨rfl, rfl⟩ := hcut
        by_cases hA : lb = 0 ∧ S.length = 0 ∧ no = 0
        · have hd : decide (lb = 0 ∧ S.length = 0 ∧ no = 0) = true := decide_eq_true hA
          rw [hd]
          have HA := hid hA
          have hres := st2.res
          have fz := resF hres
          have r0 := resC hres 0 _ rfl
          have r1 := resC hres 1 _ rfl
          have r2 := resC hres 2 _ rfl
          have r3 := resC hres 3 _ rfl
          have r4 := resC hres 4 _ rfl
          have r5 := resC hres 5 _ rfl
          have r6 := resC hres 6 _ rfl
          have r7 := resC hres 7 _ rfl
          have r8 := resC hres 8 _ rfl
          have r9 := resC hres 9 _ rfl
          have r10 := resC hres 10 _ rfl
          have r11 := resC hres 11 _ rfl
          have r12 := resC hres 12 _ rfl
          clear hres hd hA
          go_wp2
          have hh := put13_heap st2.res (.string ⟨#[]⟩) (.int .i64 0) (.int .i64 0) (.string ⟨#[]⟩) (.int .i64 0) (.int .i64 0) (.int .i64 0) (.int .i64 0) (.slice none 0 0) (.slice none 0 0) (.slice none 0 0) (.slice none 0 0) (.slice none 0 0)
          have hbb := put13_below st2.below (Nat.le_succ _) (.string ⟨#[]⟩) (.int .i64 0) (.int .i64 0) (.string ⟨#[]⟩) (.int .i64 0) (.int .i64 0) (.int .i64 0) (.int .i64 0) (.slice none 0 0) (.slice none 0 0) (.slice none 0 0) (.slice none 0 0) (.slice none 0 0)
          generalize hT : ((((((((((((wc.setCell ⟨w.heap.size + 1, 0, none⟩ (.string ⟨#[]⟩)).setCell ⟨w.heap.size + 1, 1, none⟩ (.int .i64 0)).setCell ⟨w.heap.size + 1, 2, none⟩ (.int .i64 0)).setCell ⟨w.heap.size + 1, 3, none⟩ (.string ⟨#[]⟩)).setCell ⟨w.heap.size + 1, 4, none⟩ (.int .i64 0)).setCell ⟨w.heap.size + 1, 5, none⟩ (.int .i64 0)).setCell ⟨w.heap.size + 1, 6, none⟩ (.int .i64 0)).setCell ⟨w.heap.size + 1, 7, none⟩ (.int .i64 0)).setCell ⟨w.heap.size + 1, 8, none⟩ (.slice none 0 0)).setCell ⟨w.heap.size + 1, 9, none⟩ (.slice none 0 0)).setCell ⟨w.heap.size + 1, 10, none⟩ (.slice none 0 0)).setCell ⟨w.heap.size + 1, 11, none⟩ (.slice none 0 0)).setCell ⟨w.heap.size + 1, 12, none⟩ (.slice none 0 0) = w3 at hh hbb ⊢
          obtain ⟨q0, q1, q2, q3, q4, q5, q6, q7, q8, q9, q10, q11, q12⟩ := read13 hh
          refine bodyPost_ret (v := .tuple #[.agg anZ, .bool false]) (by simp [results, Try.results45, go_sem, anZ, q0, q1, q2, q3, q4, q5, q6, q7, q8, q9, q10, q11, q12]) rfl ?_
          go_light
          rw [HLB.out]
          exact ⟨hbb, .inl ⟨rfl, .inl HA.out⟩⟩
        · have hd : decide (lb = 0 ∧ S.length = 0 ∧ no = 0) = false := decide_eq_false hA
          rw [hd]
          have HA := hid hA
          have ht4 := st2.t4
          have c3 := M2.c3 j hj
          rw [hWj] at c3
          have hjn : (j : Int) < n := by omega
          clear hd hA
          go_upto_region 15 with fail
          go_cut [13, 99] (fun sl b wr => sl = .slice (some ⟨bl, 0, none⟩) ll cl ∧ ∃ bv : Bool, b = .bool bv ∧ (bv = true ↔ Fits ll (Z j) lb (befZ Z bi) S) ∧ ∃ m, wr = wc.drewN m)
          case first =>
            by_cases hfit : lb + S.length ≤ ll
            · have hge : (lb : Int) ≤ (ll : Int) - S.length := by omega
              obtain ⟨aj, cj, hwj, hAj, _⟩ := M2.inner j hj hR
              rw [hWj, hLj] at hwj
              simp only [Value.slice.injEq, true_and] at hwj
              obtain ⟨rfl, rfl⟩ := hwj
              rw [hLj] at hAj
              go_wp2_with fail
              refine (eq49 _ _ lb lb _ _ (Z j) (befZ Z bi) wc (hAj.take (by omega)) hab).mono ?_
              rintro e w3 ⟨b1, rfl, hb1, m1, rfl⟩
              have HB1 := hid hb1
              clear hb1
              cases b1
              · go_wp2_with fail
                go_meet
                case rel => exact ⟨rfl, false, rfl, ⟨fun h => (by cases h), fun h => absurd (HB1.out.2 ⟨rfl, h.2.1⟩) (by simp)⟩, m1, rfl⟩
              · go_wp2_with fail
                · have HC : Hid (cl = ll - S.length) := h
                  clear h
                  refine (eq49 _ _ _ _ _ _ (fun i => Z j (ll - S.length + i)) (fun i => S.getD i 0) (wc.drewN m1) ⟨by omega, .inl (by have := HC.out; omega)⟩ (hSA.drewN m1)).mono ?_
                  rintro e w3 ⟨b2, rfl, hb2, m2, rfl⟩
                  have HB2 := hid hb2
                  clear hb2
                  go_wp2_with fail
                  go_meet
                  case rel => exact ⟨by rw [HC.out], b2, rfl, fits_iff hfit HB1.out HB2.out, m1 + m2, rfl⟩
                · refine (eq49 _ _ _ _ _ _ (fun i => Z j (ll - S.length + i)) (fun i => S.getD i 0) (wc.drewN m1) ⟨by omega, .inr ⟨bl, _, rfl, fun i hi => ?_⟩⟩ (hSA.drewN m1)).mono ?_
                  · have := hAj.cell (k := ll - S.length + i) (by omega)
                    rw [Nat.zero_add] at this
                    exact this
                  rintro e w3 ⟨b2, rfl, hb2, m2, rfl⟩
                  have HB2 := hid hb2
                  clear hb2
                  go_wp2_with fail
                  go_meet
                  case rel => exact ⟨rfl, b2, rfl, fits_iff hfit HB1.out HB2.out, m1 + m2, rfl⟩
            · have hge : ¬ (lb : Int) ≤ (ll : Int) - S.length := by omega
              go_wp2_with fail
              go_meet
              case rel => exact ⟨rfl, false, rfl, ⟨fun h => (by cases h), fun h => absurd h.1 hfit⟩, 0, rfl⟩
          case rest =>
            obtain ⟨rfl, bv, rfl, hbv, m, rfl⟩ := hcut
            have hbd : Below (w.heap.size + 2) w1 (wc.drewN m) := ⟨hbel2.os, hbel2.tape, hbel2.output, hbel2.size, hbel2.block⟩
            have hSd := hSA.drewN m
            have habd := hab.drewN m
            generalize wc.drewN m = wd at hbd hSd habd ⊢
            have HBV := hid hbv
            have std := hst.later hbd
            have Md := M.later std.below
            have hOd := hO.later std.below
            obtain ⟨aj, cj, hwj, hAj, _⟩ := Md.inner j hj hR
            rw [hWj, hLj] at hwj
            simp only [Value.slice.injEq, true_and] at hwj
            obtain ⟨rfl, rfl⟩ := hwj
            rw [hLj] at hAj
            clear hbv hbel2 hSA hab st2 M2 ht4 c3 hown2
            have qn : ∀ (w : World) (a : Option Addr) (n c n' c' : Nat), (binOp .eql 32 (.slice a n c) (.slice none n' c')).run Try.prog w = .ok (.bool a.isNone) w := fun w a n c n' c' => Lib.run_eql_slice_nil w _ _ a n c n' c' Try.underlying32
            go_upto_if 99 with fail
            go_cut [15] (fun vo wr => Below wd.heap.size wd wr ∧ ((Fits ll (Z j) lb (befZ Z bi) S ∧ btw (Z j) lb ((ll : Int) - S.length) O no ≠ [] ∧ wr.ownsRow wd.heap.size 2 1 vo (btw (Z j) lb ((ll : Int) - S.length) O no).length (iv (btw (Z j) lb ((ll : Int) - S.length) O no))) ∨ (¬ Fits ll (Z j) lb (befZ Z bi) S ∧ vo = .slice none 0 0)))
            case first =>
              cases bv
              · go_wp2_with fail
                go_meet
                case rel => exact ⟨Below.refl _ _, .inr ⟨fun h => absurd (HBV.out.2 h) (by simp), rfl⟩⟩
              · go_wp2_with fail
                have hfits : Fits ll (Z j) lb (befZ Z bi) S := HBV.out.1 trivial
                have HFT := hid hfits
                clear hfits
                obtain ⟨bt, hbt⟩ : ∃ bt, bt = btw (Z j) lb ((ll : Int) - S.length) O := ⟨_, rfl⟩
                have hbtl : ∀ k, (bt k).length ≤ k := fun k => by rw [hbt]; exact btw_len _ _ _ _ _
                have HBT := hid hbt
                clear hbt
                go_loopw [15, 102] (fun vo i wr => ∃ k : Nat, k ≤ no ∧ i = .int .i64 k ∧ wr.ownsRow wd.heap.size 2 1 vo (bt k).length (iv (bt k)) ∧ Below wd.heap.size wd wr ∧ (bt k = [] → vo = .slice none 0 0)) (fun _ i _ => no - (intOf i).toNat)
                case atStart => exact ⟨0, Nat.zero_le _, rfl, by rw [HBT.out]; exact World.ownsRow_nil _ _ _ _, Below.refl _ _, fun _ => rfl⟩
                case round =>
                  obtain ⟨k, hk, rfl, hown, hbw, hnil⟩ := hrel
                  have HN := hid hnil
                  clear hnil
                  by_cases hlt : k < no
                  · obtain ⟨bo, oo, rfl, cO⟩ := hOd.at hlt
                    have cO := cell_later hbw cO
                    by_cases hin : (lb : Int) ≤ O k ∧ O k < (ll : Int) - S.length
                    · have hb1 : bt (k + 1) = bt k ++ [Z j (O k).toNat] := by rw [HBT.out]; exact btw_in hin
                      obtain ⟨t, ht⟩ : ∃ t : Nat, O k = t := ⟨(O k).toNat, by omega⟩
                      rw [ht] at cO hin hb1
                      rw [Int.toNat_natCast] at hb1
                      have ct := cell_later hbw (hAj.cell (k := t) (by omega))
                      rw [Nat.zero_add] at ct
                      have HT := hid ht
                      have HB1 := hid hb1
                      obtain ⟨hin1, hin2⟩ := hin
                      have hbk := hbtl k
                      clear ht hb1 hbtl
                      go_wp2_with (first
                        | (at_builtin; refine wpList_append_own _ rfl _ _ 32 rfl wd.heap.size 2 i0 (.int .i64 0) 1 8 Try.underlying32 hi hz0 hz1 hz2 rfl (by decide) _ _ _ rfl (hown.alloc _) ⟨wr.heap.size, 0, none⟩ 1 1 [.int .i64 (Z j t)] rfl rfl ?c1 ?c2 ?c3 ?c4 ?c5 ?_)
                        | go_in)
                      case c1 => exact cell_one_new _ _ _
                      case c2 => intro u hu; simp at hu; subst hu; rfl
                      case c3 => unfold maxLen; omega
                      case c4 => omega
                      case c5 => have := hbw.size; simp; omega
                      intro v' w2 hown' hgrow hvn
                      obtain ⟨hown1, hbw1⟩ := own_app hbw (Nat.le_refl _) hown hown' hgrow
                      clear hown' hgrow hown cO ct hbw hvn
                      go_wp2
                      go_roundw
                      case rel => exact ⟨k + 1, by omega, by go_num, by rw [HB1.out]; exact hown1, hbw1, fun h => absurd h (by rw [HB1.out]; simp)⟩
                      case measure => simp [intOf]; omega
                    · have hb1 : bt (k + 1) = bt k := by rw [HBT.out]; exact btw_out hin
                      have HB1 := hid hb1
                      clear hb1
                      by_cases hin1 : (lb : Int) ≤ O k
                      · have hin2 : ¬ O k < (ll : Int) - S.length := fun h => hin ⟨hin1, h⟩
                        clear hin hbtl
                        go_wp2
                        go_roundw
                        case rel => exact ⟨k + 1, by omega, by go_num, by rw [HB1.out]; exact hown, hbw, by rw [HB1.out]; exact HN.out⟩
                        case measure => simp [intOf]; omega
                      · clear hin hbtl
                        go_wp2
                        go_roundw
                        case rel => exact ⟨k + 1, by omega, by go_num, by rw [HB1.out]; exact hown, hbw, by rw [HB1.out]; exact HN.out⟩
                        case measure => simp [intOf]; omega
                  · obtain rfl : k = no := by omega
                    clear hbtl
                    by_cases hbe : bt k = []
                    · have hvo := HN.out hbe
                      rw [hvo]
                      have HBE := hid hbe
                      have sr := std.later ((hbw.mono (Nat.le_trans hst.size hbd.size)))
                      have hres := sr.res
                      have fz := resF hres
                      have r0 := resC hres 0 _ rfl
                      have r1 := resC hres 1 _ rfl
                      have r2 := resC hres 2 _ rfl
                      have r3 := resC hres 3 _ rfl
                      have r4 := resC hres 4 _ rfl
                      have r5 := resC hres 5 _ rfl
                      have r6 := resC hres 6 _ rfl
                      have r7 := resC hres 7 _ rfl
                      have r8 := resC hres 8 _ rfl
                      have r9 := resC hres 9 _ rfl
                      have r10 := resC hres 10 _ rfl
                      have r11 := resC hres 11 _ rfl
                      have r12 := resC hres 12 _ rfl
                      clear hres hbe hvo
                      go_wp2
                      have hh := put13_heap sr.res (.string ⟨#[]⟩) (.int .i64 0) (.int .i64 0) (.string ⟨#[]⟩) (.int .i64 0) (.int .i64 0) (.int .i64 0) (.int .i64 0) (.slice none 0 0) (.slice none 0 0) (.slice none 0 0) (.slice none 0 0) (.slice none 0 0)
                      have hbb := put13_below sr.below (Nat.le_succ _) (.string ⟨#[]⟩) (.int .i64 0) (.int .i64 0) (.string ⟨#[]⟩) (.int .i64 0) (.int .i64 0) (.int .i64 0) (.int .i64 0) (.slice none 0 0) (.slice none 0 0) (.slice none 0 0) (.slice none 0 0) (.slice none 0 0)
                      generalize hT : ((((((((((((wr.setCell ⟨w.heap.size + 1, 0, none⟩ (.string ⟨#[]⟩)).setCell ⟨w.heap.size + 1, 1, none⟩ (.int .i64 0)).setCell ⟨w.heap.size + 1, 2, none⟩ (.int .i64 0)).setCell ⟨w.heap.size + 1, 3, none⟩ (.string ⟨#[]⟩)).setCell ⟨w.heap.size + 1, 4, none⟩ (.int .i64 0)).setCell ⟨w.heap.size + 1, 5, none⟩ (.int .i64 0)).setCell ⟨w.heap.size + 1, 6, none⟩ (.int .i64 0)).setCell ⟨w.heap.size + 1, 7, none⟩ (.int .i64 0)).setCell ⟨w.heap.size + 1, 8, none⟩ (.slice none 0 0)).setCell ⟨w.heap.size + 1, 9, none⟩ (.slice none 0 0)).setCell ⟨w.heap.size + 1, 10, none⟩ (.slice none 0 0)).setCell ⟨w.heap.size + 1, 11, none⟩ (.slice none 0 0)).setCell ⟨w.heap.size + 1, 12, none⟩ (.slice none 0 0) = w3 at hh hbb ⊢
                      obtain ⟨q0, q1, q2, q3, q4, q5, q6, q7, q8, q9, q10, q11, q12⟩ := read13 hh
                      refine bodyPost_ret (v := .tuple #[.agg anZ, .bool false]) (by simp [results, Try.results45, go_sem, anZ, q0, q1, q2, q3, q4, q5, q6, q7, q8, q9, q10, q11, q12]) rfl ?_
                      go_light
                      rw [HLB.out]
                      exact ⟨hbb, .inl ⟨rfl, .inr ⟨HFT.out, by rw [← HBT.out]; exact HBE.out⟩⟩⟩
                    · obtain ⟨g, cap, hvo⟩ : ∃ g cap, u15 = .slice (some ⟨g, 0, none⟩) (bt k).length cap := by
                        rcases hown.2 with ⟨_, h0⟩ | ⟨g, cap, cur, e, _⟩
                        · exact absurd (List.eq_nil_of_length_eq_zero h0) hbe
                        · exact ⟨g, cap, e⟩
                      rw [hvo]
                      have HVO := hid hvo
                      have HBE := hid hbe
                      clear hvo hbe
                      go_wp2
                      go_meet
                      case rel =>
                        refine ⟨hbw, .inl ⟨HFT.out, by rw [← HBT.out]; exact HBE.out, ?_⟩⟩
                        rw [← HBT.out, ← HVO.out]
                        exact hown
            case rest =>
              obtain ⟨hbw, hfin⟩ := hcut
              obtain ⟨xa, xn, xc, hvo⟩ : ∃ xa xn xc, u15 = .slice xa xn xc := by
                rcases hfin with ⟨_, _, ho⟩ | ⟨_, ho⟩
                · rcases ho.2 with ⟨e, _⟩ | ⟨g, cap, cur, e, _⟩
                  · exact ⟨_, _, _, e⟩
                  · exact ⟨_, _, _, e⟩
                · exact ⟨_, _, _, ho⟩
              rw [hvo]
              have HVO := hid hvo
              have HFIN := hid hfin
              have sr := std.later ((hbw.mono (Nat.le_trans hst.size hbd.size)))
              have ck := (M.later sr.below).c1 j hj
              have hres := sr.res
              have fz := resF hres
              have t0 := sr.t0
              have t1 := sr.t1
              have t4 := sr.t4
              have r0 := resC hres 0 _ rfl
              have r1 := resC hres 1 _ rfl
              have r2 := resC hres 2 _ rfl
              have r3 := resC hres 3 _ rfl
              have r4 := resC hres 4 _ rfl
              have r5 := resC hres 5 _ rfl
              have r6 := resC hres 6 _ rfl
              have r7 := resC hres 7 _ rfl
              have r8 := resC hres 8 _ rfl
              have r9 := resC hres 9 _ rfl
              have r10 := resC hres 10 _ rfl
              have r11 := resC hres 11 _ rfl
              have r12 := resC hres 12 _ rfl
              have hjn : (j : Int) < n := by omega
              have hbm : bm < w.heap.size := World.block_lt_of_cell? _ _ (M.c1 j hj)
              have hbn : ¬ bm = w.heap.size + 1 := by omega
              have hbn' : ¬ w.heap.size + 1 = bm := by omega
              clear hres hvo hfin qn
              go_wp2_with fail
              go_region_held3 (fun w' => w'.cell? ⟨w.heap.size, 0, none⟩ = some (.int .i64 iv0) ∧ w'.cell? ⟨w.heap.size, 1, none⟩ = some (.int .i64 cp) ∧ w'.cell? ⟨w.heap.size, 4, none⟩ = some (.slice (some ⟨bm, 0, none⟩) n cm) ∧ w'.cell? ⟨bm, j * 4 + 1, none⟩ = some (.string (keyStr (K j)))) (go_keep) (fail)
              have hh := put13_heap sr.res (.string ⟨#[105, 110, 116, 101, 114, 110, 97, 108]⟩) (.int .i64 iv0) (.int .i64 cp) (.string (keyStr (K j))) (.int .i64 0) (.int .i64 0) (.int .i64 0) (.int .i64 (j : Int)) (.slice (some ⟨bl, 0, none⟩) ll cl) (.slice ab lb cb) (.slice va S.length vc) (.slice xa xn xc) (.slice none 0 0)
              have hbb := put13_below sr.below (Nat.le_succ _) (.string ⟨#[105, 110, 116, 101, 114, 110, 97, 108]⟩) (.int .i64 iv0) (.int .i64 cp) (.string (keyStr (K j))) (.int .i64 0) (.int .i64 0) (.int .i64 0) (.int .i64 (j : Int)) (.slice (some ⟨bl, 0, none⟩) ll cl) (.slice ab lb cb) (.slice va S.length vc) (.slice xa xn xc) (.slice none 0 0)
              have hpa := fun a n f (h : Arr wc a n f) (ha : AddrFrom (w.heap.size + 1 + 1) a) => put13_arr h ha (.string ⟨#[105, 110, 116, 101, 114, 110, 97, 108]⟩) (.int .i64 iv0) (.int .i64 cp) (.string (keyStr (K j))) (.int .i64 0) (.int .i64 0) (.int .i64 0) (.int .i64 (j : Int)) (.slice (some ⟨bl, 0, none⟩) ll cl) (.slice ab lb cb) (.slice va S.length vc) (.slice xa xn xc) (.slice none 0 0)
              generalize hT : ((((((((((((wc.setCell ⟨w.heap.size + 1, 0, none⟩ (.string ⟨#[105, 110, 116, 101, 114, 110, 97, 108]⟩)).setCell ⟨w.heap.size + 1, 1, none⟩ (.int .i64 iv0)).setCell ⟨w.heap.size + 1, 2, none⟩ (.int .i64 cp)).setCell ⟨w.heap.size + 1, 3, none⟩ (.string (keyStr (K j)))).setCell ⟨w.heap.size + 1, 4, none⟩ (.int .i64 0)).setCell ⟨w.heap.size + 1, 5, none⟩ (.int .i64 0)).setCell ⟨w.heap.size + 1, 6, none⟩ (.int .i64 0)).setCell ⟨w.heap.size + 1, 7, none⟩ (.int .i64 (j : Int))).setCell ⟨w.heap.size + 1, 8, none⟩ (.slice (some ⟨bl, 0, none⟩) ll cl)).setCell ⟨w.heap.size + 1, 9, none⟩ (.slice ab lb cb)).setCell ⟨w.heap.size + 1, 10, none⟩ (.slice va S.length vc)).setCell ⟨w.heap.size + 1, 11, none⟩ (.slice xa xn xc)).setCell ⟨w.heap.size + 1, 12, none⟩ (.slice none 0 0) = w3 at hh hbb hpa ⊢
              obtain ⟨q0, q1, q2, q3, q4, q5, q6, q7, q8, q9, q10, q11, q12⟩ := read13 hh
              clear hT
              go_wp2
              refine bodyPost_ret (v := .tuple #[.agg #[.string ⟨#[105, 110, 116, 101, 114, 110, 97, 108]⟩, .int .i64 iv0, .int .i64 cp, .string (keyStr (K j)), .int .i64 0, .int .i64 0, .int .i64 0, .int .i64 (j : Int), .slice (some ⟨bl, 0, none⟩) ll cl, .slice ab lb cb, .slice va S.length vc, .slice xa xn xc, .slice none 0 0], .bool true]) (by simp [results, Try.results45, go_sem, q0, q1, q2, q3, q4, q5, q6, q7, q8, q9, q10, q11, q12]) rfl ?_
              go_light
              have hfin := HFIN.out
              have hvo := HVO.out
              have hs2 : w.heap.size + 2 ≤ wd.heap.size := Nat.le_trans hst.size hbd.size
              have iS : Ints w.heap.size w3 (.slice va S.length vc) S.length (fun i => S.getD i 0) := ⟨va, vc, rfl, hpa _ _ _ (hSd.later hbw) hSF, hSF.mono (by omega)⟩
              have hvb := HVB.out
              rw [HLB.out] at hvb ⊢
              rw [hWj, ← hvb]
              refine ⟨hbb.drew, .inr ⟨_, _, rfl, HA.out, iS, ?_⟩⟩
              rcases hfin with ⟨f1, f2, f3⟩ | ⟨f1, f2⟩
              · refine .inl ⟨f1, f2, ?_⟩
                have hbl := btw_len (Z j) lb ((ll : Int) - S.length) O no
                obtain ⟨ya, yc, hy, hyA, hyF⟩ := own_ints f3 (by omega)
                rw [hvo] at hy
                rw [hy]
                exact ⟨ya, yc, rfl, hpa _ _ _ hyA (hyF.mono hs2), hyF.mono (by omega)⟩
              · exact .inr ⟨f1, by rw [← hvo, f2]⟩
end Go.Proofs.Qxb6600044a
