import Derived.Test.Qxb6600044aA8
namespace Go.Proofs.Qxb6600044a
open Go.RowKit
set_option linter.unusedVariables false

def sliceA : Value → Option Addr | .slice a _ _ => a | _ => none
def sliceC : Value → Nat | .slice _ _ c => c | _ => 0

theorem Script.rows2 {w : World} {a0 a1 a2 a3 : Option Addr} {n0 n1 n2 n3 : Nat} {K : Nat → Int} {R : Nat → Bool} {E : Nat → Int} {V : Nat → Value} {L : Nat → Nat} {Z : Nat → Nat → Int}
    (h : Script w a0 a1 a2 a3 n0 n1 n2 n3 K R E V L Z) : Rows2 w a3 n3 L := by
  refine ⟨fun i => sliceA (V i), fun i => sliceC (V i), h.lists.congr fun i hi => ?_⟩
  obtain ⟨a, c, e, _⟩ := h.inner i hi
  show V i = .slice (sliceA (V i)) (L i) (sliceC (V i))
  rw [e]; rfl

theorem Script.toLists {w : World} {a0 a1 a2 a3 : Option Addr} {n0 n1 n2 n3 : Nat} {K : Nat → Int} {R : Nat → Bool} {E : Nat → Int} {V : Nat → Value} {L : Nat → Nat} {Z : Nat → Nat → Int}
    (h : Script w a0 a1 a2 a3 n0 n1 n2 n3 K R E V L Z) : Lists w a3 n3 L Z := ⟨V, h.lists, h.inner⟩

/-- The law returns true and has written nothing that was there. -/
def LawPost (w : World) (e : Ending) (w' : World) : Prop := e = .returned (.bool true) ∧ Below w.heap.size w w'

/-- The first n values of a function, as a list. -/
def tab (n : Nat) (z : Nat → Int) : List Int := (List.range n).map z
theorem tab_length (n : Nat) (z : Nat → Int) : (tab n z).length = n := by simp [tab]
theorem tab_getD (n : Nat) (z : Nat → Int) (i : Nat) (hi : i < n) : (tab n z).getD i 0 = z i := by simp [tab, hi]
theorem tab_list (xs : List Int) : tab xs.length (fun i => xs.getD i 0) = xs := by
  apply List.ext_getElem?
  intro i
  by_cases hi : i < xs.length
  · simp [tab, hi]
  · simp [tab, hi]

theorem tab_list' (xs : List Int) : tab xs.length (fun i => xs[i]?.getD 0) = xs := tab_list xs

theorem fwd_isread (K : Nat → Int) (R : Nat → Bool) (E : Nat → Int) (id : Int) (k p : Nat) (h : (fwd K R E id k).1 = some p) : R p = true := by
  induction k with
  | zero => simp [fwd] at h
  | succ k ih =>
    by_cases hk : K k % 4 = id
    · cases hr : R k
      · rw [fwd_app _ _ _ _ _ hk hr] at h; exact ih h
      · rw [fwd_read _ _ _ _ _ hk hr] at h; simp at h; rw [← h]; exact hr
    · rw [fwd_skip _ _ _ _ _ hk] at h; exact ih h

/-- The positions below p that are marked. -/
def owL (Mk : Nat → Bool) : Nat → List Int
  | 0 => []
  | p + 1 => if Mk p = true then owL Mk p ++ [(p : Int)] else owL Mk p
/-- The elements of the middle part at the marked positions below p. -/
def woL (Mk : Nat → Bool) (Mi : Nat → Int) (lb m : Nat) : Nat → List Int
  | 0 => []
  | p + 1 => if Mk p = true ∧ lb ≤ p ∧ p < lb + m then woL Mk Mi lb m p ++ [Mi (p - lb)] else woL Mk Mi lb m p

theorem owL_len (Mk : Nat → Bool) (p : Nat) : (owL Mk p).length ≤ p := by
  induction p with
  | zero => simp [owL]
  | succ p ih =>
    simp only [owL]
    split
    · simp; omega
    · omega
theorem woL_len (Mk : Nat → Bool) (Mi : Nat → Int) (lb m p : Nat) : (woL Mk Mi lb m p).length ≤ p := by
  induction p with
  | zero => simp [woL]
  | succ p ih =>
    simp only [woL]
    split
    · simp; omega
    · omega

theorem btw_congr (zl : Nat → Int) (lo hi : Int) (O O' : Nat → Int) (k : Nat) (h : ∀ i, i < k → O i = O' i) : btw zl lo hi O k = btw zl lo hi O' k := by
  induction k with
  | zero => rfl
  | succ k ih => simp only [btw]; rw [ih fun i hi => h i (by omega), h k (by omega)]

theorem btw_snoc (zl : Nat → Int) (lo hi : Int) (xs : List Int) (x : Int) :
    btw zl lo hi (fun i => (xs ++ [x]).getD i 0) (xs ++ [x]).length = if lo ≤ x ∧ x < hi then btw zl lo hi (fun i => xs.getD i 0) xs.length ++ [zl x.toNat] else btw zl lo hi (fun i => xs.getD i 0) xs.length := by
  have e : btw zl lo hi (fun i => (xs ++ [x]).getD i 0) xs.length = btw zl lo hi (fun i => xs.getD i 0) xs.length :=
    btw_congr _ _ _ _ _ _ fun i hi => by simp [List.getElem?_append_left hi]
  have e2 : (xs ++ [x]).length = xs.length + 1 := by simp
  rw [e2, btw]
  have e3 : (xs ++ [x]).getD xs.length 0 = x := by simp
  rw [e3, e]

/-- THE PLAIN LAW: what 'internal' finds between is what the law wants. -/
theorem btw_want (zl : Nat → Int) (Mk : Nat → Bool) (Mi : Nat → Int) (lb m : Nat) (hz : ∀ p, lb ≤ p → p < lb + m → zl p = Mi (p - lb)) (p : Nat) :
    btw zl lb ((lb + m : Nat) : Int) (fun i => (owL Mk p).getD i 0) (owL Mk p).length = woL Mk Mi lb m p := by
  induction p with
  | zero => simp [owL, woL, btw]
  | succ p ih =>
    by_cases hm : Mk p = true
    · have e1 : owL Mk (p + 1) = owL Mk p ++ [(p : Int)] := by simp [owL, hm]
      rw [e1, btw_snoc, ih]
      by_cases hin : lb ≤ p ∧ p < lb + m
      · have e2 : woL Mk Mi lb m (p + 1) = woL Mk Mi lb m p ++ [Mi (p - lb)] := by simp [woL, hm, hin]
        rw [e2, if_pos (by omega), Int.toNat_natCast, hz p hin.1 hin.2]
      · have e2 : woL Mk Mi lb m (p + 1) = woL Mk Mi lb m p := by simp only [woL]; rw [if_neg (fun h => hin h.2)]
        rw [e2, if_neg (by omega)]
    · have e1 : owL Mk (p + 1) = owL Mk p := by simp [owL, hm]
      have e2 : woL Mk Mi lb m (p + 1) = woL Mk Mi lb m p := by simp only [woL]; rw [if_neg (fun h => hm h.1)]
      rw [e1, e2, ih]

theorem run_append_none {P : Program} (w : World) (base : Nat) (t ty e : TypeId) (i : TypeInfo) (size : Nat) (ht : P.underlying t = some (.slice e)) (hi : P.info? e = some i)
    (v : Value) (n c : Nat) (xs : List Value) (hown : w.ownsRow base e size v n xs) :
    (Builtin.append_ #[t, t] ty #[v, .slice none 0 c]).run P w = .ok v w := by
  rcases hown.2 with ⟨rfl, rfl⟩ | ⟨g, cap, cur, rfl, _, _, hnc, _⟩
  · simp [Builtin.append_, run_underlying ht, sizeOf, typeInfo, hi, Builtin.lenOf, Builtin.firstCells]
  · simp [Builtin.append_, run_underlying ht, sizeOf, typeInfo, hi, Builtin.lenOf, Builtin.firstCells, hnc, storeCells]

/-- 'list = append(list, src...)' within the capacity, src whatever slice of integers. -/
theorem wpList_append_arr {P : Program} (w : World) {ops : Array Oper} {rest : List Oper} {o : Oper} {a : Act} {Q : Exit → Act → World → Prop}
    (hg : o.guard = none) (s x : Operand) (t : TypeId) (hop : o.op = Op.call { callee := Callee.builtin Builtin.append, args := #[s, x], argTypes := #[t, t] })
    (base : Nat) (e : TypeId) (i : TypeInfo) (h1 : P.underlying t = some (.slice e)) (h2 : P.info? e = some i) (h4 : i.size = 1)
    (g cap : Nat) (xs : List Int) (k : Nat) (hk : xs.length = k) (hs : a.eval s = .slice (some ⟨g, 0, none⟩) k cap) (hown : w.ownsRow base e 1 (.slice (some ⟨g, 0, none⟩) k cap) k (iv xs)) (ao : Option Addr) (m c : Nat) (z : Nat → Int) (hx : a.eval x = .slice ao m c)
    (hA : Arr w ao m fun i => .int .i64 (z i)) (b1 : k + m ≤ cap)
    (hK : ∀ w', w'.ownsRow base e 1 (.slice (some ⟨g, 0, none⟩) (k + m) cap) (k + m) (iv (xs ++ tab m z)) → w.grownBy w' (some g) → wpList P ops Q rest (a.put o.dst (.slice (some ⟨g, 0, none⟩) (k + m) cap)) w') :
    wpList P ops Q (o :: rest) a w := by
  have hK' : ∀ w', w'.ownsRow base e 1 (.slice (some ⟨g, 0, none⟩) (k + m) cap) (k + m) (iv xs ++ iv (tab m z)) → w.grownBy w' (some g) → wpList P ops Q rest (a.put o.dst (.slice (some ⟨g, 0, none⟩) (k + m) cap)) w' := by
    intro w' h; refine hK w' ?_; simpa [iv] using h
  cases ao with
  | some ad =>
    refine wpList_append_fits w hg s x t hop base e i 1 h1 h2 h4 g k cap (iv xs) hs hown ad m c (iv (tab m z)) hx (by simp [iv, tab]) ?_ (ints_oneCell _ _) b1 hK'
    intro j u hu
    have hj : j < m := by
      have := (List.getElem?_eq_some_iff.1 hu).1
      simpa [iv, tab] using this
    rcases hA.2 with h0 | ⟨b, off, e', hc⟩
    · omega
    · cases e'
      rw [iv_getElem? _ _ (by rw [tab_length]; exact hj), tab_getD _ _ _ hj] at hu
      rw [addPlain, hc j hj]
      exact hu
  | none =>
    obtain rfl := hA.nil
    refine wpList_plain hg fun K hK2 => ?_
    have hrun := run_append_none (P := P) w base t o.type e i 1 h1 h2 _ k c (iv xs) hown
    unfold Oper.wp
    simp [execOp, hop, resolve, invoke, builtin, hs, hx, hrun, Result.andThen]
    exact hK2 _ _ (by simpa using hK w (by simpa [tab] using hown) (World.grownBy.refl _ _))

/-- The script with the list of read j laid in. -/
def withV (j : Nat) (vl : Value) (R : Nat → Bool) (V : Nat → Value) (p : Nat) : Value := if p = j then vl else if R p = true then V p else .slice none 0 0
def withL (j ll : Nat) (L : Nat → Nat) (p : Nat) : Nat := if p = j then ll else L p
def withZ (j : Nat) (zl : Nat → Int) (Z : Nat → Nat → Int) (p : Nat) : Nat → Int := if p = j then zl else Z p

theorem mops_store {w6 w7 w12 : World} {a0 a1 a2 a3 : Option Addr} {n0 n1 n2 n3 n : Nat} {K : Nat → Int} {R : Nat → Bool} {E : Nat → Int} {V : Nat → Value} {L : Nat → Nat} {Z : Nat → Nat → Int}
    (S : Script w6 a0 a1 a2 a3 n0 n1 n2 n3 K R E V L Z) (h3 : n ≤ n3) (hbr : BRel w6 w7 n n K R E V) (hb : Below w7.heap.size w7 w12) (j : Nat) (hj : j < n) (vl : Value) (ll : Nat) (zl : Nat → Int) (hvl : Ints w7.heap.size w12 vl ll zl) :
    Mops (w12.setCell ⟨w6.heap.size, j * 4 + 3, none⟩ vl) w6.heap.size (w6.heap.size + 1) n K R E (withV j vl R V) (withL j ll L) (withZ j zl Z) ∧ Below w6.heap.size w6 (w12.setCell ⟨w6.heap.size, j * 4 + 3, none⟩ vl) ∧
    w12.cell? ⟨w6.heap.size, j * 4 + 3, none⟩ = some (mopCell K R E V (j * 4 + 3)) ∧ w12.frozen? ⟨w6.heap.size, j * 4 + 3, none⟩ = false := by
  have r1 : w12.rowIs w6.heap.size 64 (n * 4) _ := hbr.mops.of_block (hb.block _ hbr.mops.lt)
  have r2 : w12.rowIs (w6.heap.size + 1) 3 n _ := hbr.prev.of_block (hb.block _ hbr.prev.lt)
  have hs7 := hbr.mops.lt
  have s1 := r1.set (j * 4 + 3) vl
  have s2 := r2.setOther (a := ⟨w6.heap.size, j * 4 + 3, none⟩) (by simp) vl
  have b12 : Below w6.heap.size w6 w12 := hbr.below.trans (hb.mono hbr.below.size)
  have bel : Below w6.heap.size w6 (w12.setCell ⟨w6.heap.size, j * 4 + 3, none⟩ vl) := b12.setCell (p := ⟨w6.heap.size, j * 4 + 3, none⟩) (Nat.le_refl _) vl
  refine ⟨⟨?_, ?_, ?_, ?_, ?_, ?_, S.kb⟩, bel, ?_, r1.frozen _⟩
  · intro p hp
    rw [s1.cell (i := p * 4) (by omega), if_neg (by omega), if_pos (by omega)]
    simp [mopCell]
  · intro p hp
    rw [s1.cell (i := p * 4 + 1) (by omega), if_neg (by omega), if_pos (by omega)]
    simp [mopCell, Nat.add_mod, Nat.add_div]
  · intro p hp hr
    rw [s1.cell (i := p * 4 + 2) (by omega), if_neg (by omega), if_pos (by omega)]
    simp [mopCell, Nat.add_mod, Nat.add_div, hr]
  · intro p hp
    by_cases e : p = j
    · subst e
      rw [s1.cell (i := p * 4 + 3) (by omega), if_pos rfl]
      simp [withV]
    · rw [s1.cell (i := p * 4 + 3) (by omega), if_neg (by omega), if_pos (by omega)]
      simp [mopCell, Nat.add_mod, Nat.add_div, withV, e]
  · intro p hp
    rw [s2.cell hp, if_pos hp]
  · intro p hp hr
    by_cases e : p = j
    · subst e
      simp only [withV, withL, withZ, if_true]
      exact (hvl.setCell (p := ⟨w6.heap.size, p * 4 + 3, .none⟩) hs7 vl).mono (Nat.zero_le _)
    · simp only [withV, withL, withZ, if_neg e, if_pos hr]
      exact (S.inner p (by omega)).later bel
  · rw [r1.cell (i := j * 4 + 3) (by omega), if_pos (by omega)]

/-- Two owned rows of different element types are different blocks. -/
theorem own_ne {w : World} {B B' t t' : Nat} {v v' : Value} {n n' : Nat} {xs xs' : List Value} (h : w.ownsRow B t 1 v n xs) (h' : w.ownsRow B' t' 1 v' n' xs') (ht : t ≠ t') : v.ownBlock = none ∨ v.ownBlock ≠ v'.ownBlock := by
  rcases h.2 with ⟨rfl, _⟩ | ⟨g, cap, cur, rfl, _, hg, _⟩
  · exact .inl rfl
  · right
    rcases h'.2 with ⟨rfl, _⟩ | ⟨g', cap', cur', rfl, _, hg', _⟩
    · simp [Value.ownBlock]
    · simp only [Value.ownBlock, ne_eq, Option.some.injEq]
      intro e
      subst e
      rw [hg] at hg'
      simp at hg'
      exact ht hg'.2

theorem own_list {w : World} {B t g ll cap : Nat} {lst : List Int} (h : w.ownsRow B t 1 (.slice (some ⟨g, 0, none⟩) ll cap) ll (iv lst)) (hl : lst.length = ll) (hm : ll ≤ 9223372036854775807) :
    Ints B w (.slice (some ⟨g, 0, none⟩) ll cap) ll (fun i => lst.getD i 0) := by
  subst hl
  obtain ⟨xa, xc, e, hA, hF⟩ := own_ints h hm
  rw [e]
  exact ⟨xa, xc, rfl, hA, hF⟩

/-- The earlier read's list is not touched by what is laid into read j. -/
theorem with_bef {K : Nat → Int} {R : Nat → Bool} {E : Nat → Int} {V : Nat → Value} {L : Nat → Nat} {Z : Nat → Nat → Int} {j : Nat} {bi : Option Nat} {S : List Int} (hf : fwd K R E (K j % 4) j = (bi, S)) (vl : Value) (ll : Nat) (zl : Nat → Int) :
    befV (withV j vl R V) bi = befV V bi ∧ befL (withL j ll L) bi = befL L bi ∧ befZ (withZ j zl Z) bi = befZ Z bi := by
  rcases hb : bi with _ | p
  · exact ⟨rfl, rfl, rfl⟩
  · have h1 : (fwd K R E (K j % 4) j).1 = some p := by rw [hf, hb]
    have hlt := fwd_lt _ _ _ _ _ _ h1
    have hrd := fwd_isread _ _ _ _ _ _ h1
    have hne : ¬ p = j := by omega
    simp [befV, befL, befZ, withV, withL, withZ, hne, hrd]

theorem getD_left (xs ys : List Int) (i : Nat) (h : i < xs.length) : (xs ++ ys).getD i 0 = xs.getD i 0 := by simp [List.getElem?_append_left h]
theorem getD_right (xs ys : List Int) (i : Nat) (h : xs.length ≤ i) : (xs ++ ys).getD i 0 = ys.getD (i - xs.length) 0 := by simp [List.getElem?_append_right h]

/-- An honest list: before, then the middle, then since. -/
theorem honest_fits (lb m : Nat) (zb Mi : Nat → Int) (S : List Int) : Fits (lb + m + S.length) (fun i => (tab lb zb ++ (tab m Mi ++ S)).getD i 0) lb zb S := by
  refine ⟨by omega, fun i hi => ?_, fun i hi => ?_⟩
  · show (tab lb zb ++ (tab m Mi ++ S)).getD i 0 = zb i
    rw [getD_left _ _ _ (by rw [tab_length]; exact hi), tab_getD _ _ _ hi]
  · show (tab lb zb ++ (tab m Mi ++ S)).getD (lb + m + S.length - S.length + i) 0 = S.getD i 0
    rw [getD_right _ _ _ (by rw [tab_length]; omega), getD_right _ _ _ (by rw [tab_length, tab_length]; omega), tab_length, tab_length]
    congr 1
    omega

theorem honest_mid (lb m : Nat) (zb Mi : Nat → Int) (S : List Int) (p : Nat) (h1 : lb ≤ p) (h2 : p < lb + m) : (tab lb zb ++ (tab m Mi ++ S)).getD p 0 = Mi (p - lb) := by
  rw [getD_right _ _ _ (by rw [tab_length]; omega), getD_left _ _ _ (by rw [tab_length, tab_length]; omega), tab_length, tab_getD _ _ _ (by omega)]

theorem regS_alloc {wN W : World} {N A kb ko : Nat} {v0 v1 v2 v3 v4 v5 v6 v7 v8 v9 v10 v11 v12 kv : Value} (h : W.cell? ⟨A, 0, none⟩ = some v0 ∧ W.cell? ⟨A, 1, none⟩ = some v1 ∧ W.cell? ⟨A, 2, none⟩ = some v2 ∧ W.cell? ⟨A, 3, none⟩ = some v3 ∧ W.cell? ⟨A, 4, none⟩ = some v4 ∧ W.cell? ⟨A, 5, none⟩ = some v5 ∧ W.cell? ⟨A, 6, none⟩ = some v6 ∧ W.cell? ⟨A, 7, none⟩ = some v7 ∧ W.cell? ⟨A, 8, none⟩ = some v8 ∧ W.cell? ⟨A, 9, none⟩ = some v9 ∧ W.cell? ⟨A, 10, none⟩ = some v10 ∧ W.cell? ⟨A, 11, none⟩ = some v11 ∧ W.cell? ⟨A, 12, none⟩ = some v12 ∧ W.cell? ⟨kb, ko, none⟩ = some kv ∧ Below N wN W) (hN : N ≤ wN.heap.size) (o : Obj) : (W.alloc o).cell? ⟨A, 0, none⟩ = some v0 ∧ (W.alloc o).cell? ⟨A, 1, none⟩ = some v1 ∧ (W.alloc o).cell? ⟨A, 2, none⟩ = some v2 ∧ (W.alloc o).cell? ⟨A, 3, none⟩ = some v3 ∧ (W.alloc o).cell? ⟨A, 4, none⟩ = some v4 ∧ (W.alloc o).cell? ⟨A, 5, none⟩ = some v5 ∧ (W.alloc o).cell? ⟨A, 6, none⟩ = some v6 ∧ (W.alloc o).cell? ⟨A, 7, none⟩ = some v7 ∧ (W.alloc o).cell? ⟨A, 8, none⟩ = some v8 ∧ (W.alloc o).cell? ⟨A, 9, none⟩ = some v9 ∧ (W.alloc o).cell? ⟨A, 10, none⟩ = some v10 ∧ (W.alloc o).cell? ⟨A, 11, none⟩ = some v11 ∧ (W.alloc o).cell? ⟨A, 12, none⟩ = some v12 ∧ (W.alloc o).cell? ⟨kb, ko, none⟩ = some kv ∧ Below N wN (W.alloc o) := by
  obtain ⟨h0, h1, h2, h3, h4, h5, h6, h7, h8, h9, h10, h11, h12, hk, hb⟩ := h
  exact ⟨cell_alloc h0 o, cell_alloc h1 o, cell_alloc h2 o, cell_alloc h3 o, cell_alloc h4 o, cell_alloc h5 o, cell_alloc h6 o, cell_alloc h7 o, cell_alloc h8 o, cell_alloc h9 o, cell_alloc h10 o, cell_alloc h11 o, cell_alloc h12 o, cell_alloc hk o, hb.alloc (Nat.le_trans hN hb.size) o⟩

theorem regS_drewN {wN W : World} {N A kb ko : Nat} {v0 v1 v2 v3 v4 v5 v6 v7 v8 v9 v10 v11 v12 kv : Value} (h : W.cell? ⟨A, 0, none⟩ = some v0 ∧ W.cell? ⟨A, 1, none⟩ = some v1 ∧ W.cell? ⟨A, 2, none⟩ = some v2 ∧ W.cell? ⟨A, 3, none⟩ = some v3 ∧ W.cell? ⟨A, 4, none⟩ = some v4 ∧ W.cell? ⟨A, 5, none⟩ = some v5 ∧ W.cell? ⟨A, 6, none⟩ = some v6 ∧ W.cell? ⟨A, 7, none⟩ = some v7 ∧ W.cell? ⟨A, 8, none⟩ = some v8 ∧ W.cell? ⟨A, 9, none⟩ = some v9 ∧ W.cell? ⟨A, 10, none⟩ = some v10 ∧ W.cell? ⟨A, 11, none⟩ = some v11 ∧ W.cell? ⟨A, 12, none⟩ = some v12 ∧ W.cell? ⟨kb, ko, none⟩ = some kv ∧ Below N wN W) (m : Nat) : (W.drewN m).cell? ⟨A, 0, none⟩ = some v0 ∧ (W.drewN m).cell? ⟨A, 1, none⟩ = some v1 ∧ (W.drewN m).cell? ⟨A, 2, none⟩ = some v2 ∧ (W.drewN m).cell? ⟨A, 3, none⟩ = some v3 ∧ (W.drewN m).cell? ⟨A, 4, none⟩ = some v4 ∧ (W.drewN m).cell? ⟨A, 5, none⟩ = some v5 ∧ (W.drewN m).cell? ⟨A, 6, none⟩ = some v6 ∧ (W.drewN m).cell? ⟨A, 7, none⟩ = some v7 ∧ (W.drewN m).cell? ⟨A, 8, none⟩ = some v8 ∧ (W.drewN m).cell? ⟨A, 9, none⟩ = some v9 ∧ (W.drewN m).cell? ⟨A, 10, none⟩ = some v10 ∧ (W.drewN m).cell? ⟨A, 11, none⟩ = some v11 ∧ (W.drewN m).cell? ⟨A, 12, none⟩ = some v12 ∧ (W.drewN m).cell? ⟨kb, ko, none⟩ = some kv ∧ Below N wN (W.drewN m) := by
  obtain ⟨h0, h1, h2, h3, h4, h5, h6, h7, h8, h9, h10, h11, h12, hk, hb⟩ := h
  exact ⟨h0, h1, h2, h3, h4, h5, h6, h7, h8, h9, h10, h11, h12, hk, ⟨hb.os, hb.tape, hb.output, hb.size, hb.block⟩⟩

theorem regS_same {wN W W' : World} {N A kb ko : Nat} {v0 v1 v2 v3 v4 v5 v6 v7 v8 v9 v10 v11 v12 kv : Value} (h : W.cell? ⟨A, 0, none⟩ = some v0 ∧ W.cell? ⟨A, 1, none⟩ = some v1 ∧ W.cell? ⟨A, 2, none⟩ = some v2 ∧ W.cell? ⟨A, 3, none⟩ = some v3 ∧ W.cell? ⟨A, 4, none⟩ = some v4 ∧ W.cell? ⟨A, 5, none⟩ = some v5 ∧ W.cell? ⟨A, 6, none⟩ = some v6 ∧ W.cell? ⟨A, 7, none⟩ = some v7 ∧ W.cell? ⟨A, 8, none⟩ = some v8 ∧ W.cell? ⟨A, 9, none⟩ = some v9 ∧ W.cell? ⟨A, 10, none⟩ = some v10 ∧ W.cell? ⟨A, 11, none⟩ = some v11 ∧ W.cell? ⟨A, 12, none⟩ = some v12 ∧ W.cell? ⟨kb, ko, none⟩ = some kv ∧ Below N wN W) (e1 : W'.heap = W.heap) (e2 : W'.os = W.os) (e3 : W'.tape = W.tape) (e4 : W'.output = W.output) : (W').cell? ⟨A, 0, none⟩ = some v0 ∧ (W').cell? ⟨A, 1, none⟩ = some v1 ∧ (W').cell? ⟨A, 2, none⟩ = some v2 ∧ (W').cell? ⟨A, 3, none⟩ = some v3 ∧ (W').cell? ⟨A, 4, none⟩ = some v4 ∧ (W').cell? ⟨A, 5, none⟩ = some v5 ∧ (W').cell? ⟨A, 6, none⟩ = some v6 ∧ (W').cell? ⟨A, 7, none⟩ = some v7 ∧ (W').cell? ⟨A, 8, none⟩ = some v8 ∧ (W').cell? ⟨A, 9, none⟩ = some v9 ∧ (W').cell? ⟨A, 10, none⟩ = some v10 ∧ (W').cell? ⟨A, 11, none⟩ = some v11 ∧ (W').cell? ⟨A, 12, none⟩ = some v12 ∧ (W').cell? ⟨kb, ko, none⟩ = some kv ∧ Below N wN (W') := by
  obtain ⟨h0, h1, h2, h3, h4, h5, h6, h7, h8, h9, h10, h11, h12, hk, hb⟩ := h
  have hc : ∀ a, W'.cell? a = W.cell? a := fun a => by simp only [World.cell?, e1]
  simp only [hc]
  exact ⟨h0, h1, h2, h3, h4, h5, h6, h7, h8, h9, h10, h11, h12, hk, ⟨e2.trans hb.os, e3.trans hb.tape, e4.trans hb.output, by rw [e1]; exact hb.size, fun k hk => by rw [e1]; exact hb.block k hk⟩⟩

theorem regS_below {wN W : World} {N A kb ko : Nat} {v0 v1 v2 v3 v4 v5 v6 v7 v8 v9 v10 v11 v12 kv : Value} (h : W.cell? ⟨A, 0, none⟩ = some v0 ∧ W.cell? ⟨A, 1, none⟩ = some v1 ∧ W.cell? ⟨A, 2, none⟩ = some v2 ∧ W.cell? ⟨A, 3, none⟩ = some v3 ∧ W.cell? ⟨A, 4, none⟩ = some v4 ∧ W.cell? ⟨A, 5, none⟩ = some v5 ∧ W.cell? ⟨A, 6, none⟩ = some v6 ∧ W.cell? ⟨A, 7, none⟩ = some v7 ∧ W.cell? ⟨A, 8, none⟩ = some v8 ∧ W.cell? ⟨A, 9, none⟩ = some v9 ∧ W.cell? ⟨A, 10, none⟩ = some v10 ∧ W.cell? ⟨A, 11, none⟩ = some v11 ∧ W.cell? ⟨A, 12, none⟩ = some v12 ∧ W.cell? ⟨kb, ko, none⟩ = some kv ∧ Below N wN W) : Below N wN W := by
  obtain ⟨h0, h1, h2, h3, h4, h5, h6, h7, h8, h9, h10, h11, h12, hk, hb⟩ := h
  exact hb

theorem belowN {B : Nat} {w w' : World} (h : Below B w w') (m : Nat) : Below B w (w'.drewN m) := ⟨h.os, h.tape, h.output, h.size, h.block⟩

theorem eq30_true (a b : Option Addr) (n c d : Nat) (x y : Nat → Int) (w : World) (hx : Arr w a n fun i => .int .i64 (x i)) (hy : Arr w b n fun i => .int .i64 (y i)) (h : ∀ i, i < n → x i = y i) :
    Calls Try.prog 30 #[.slice a n c, .slice b n d] w fun e w' => e = .returned (.bool true) ∧ ∃ m, w' = w.drewN m := by
  refine (eq30 a b n n c d x y w hx hy).mono ?_
  rintro e w' ⟨bv, rfl, hb, hm⟩
  rw [hb.2 ⟨rfl, h⟩]
  exact ⟨rfl, hm⟩

end Go.Proofs.Qxb6600044a
