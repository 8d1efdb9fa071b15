import Derived.Test.Qxb6600159aD3
import Derived.Test.Qxb6600159aP4
import Derived.OwnWalk
namespace Go.Proofs.Qxb6600159a
open Go.RowKit
set_option linter.unusedVariables false

def iv (xs : List Int) : List Value := xs.map (Value.int .i32)
theorem iv_length (xs : List Int) : (iv xs).length = xs.length := by simp [iv]
theorem iv_append (xs ys : List Int) : iv (xs ++ ys) = iv xs ++ iv ys := by simp [iv]
/-- An own row that shows the numbers q. -/
def OwnI (B : Nat) (w : World) (v : Value) (q : List Int) : Prop := w.ownsRow B 21 1 v q.length (iv q)

theorem cell_one (w : World) (v : Value) (t : Nat) : ∀ j u, [v][j]? = some u → (w.alloc (.cells #[v] t)).cell? ((⟨w.heap.size, 0, none⟩ : Addr).add j) = some u := by
  intro j u hu
  cases j with
  | zero => simp at hu; subst hu; rw [addPlain]; simp
  | succ j => simp at hu

theorem OwnI.nil (B : Nat) (w : World) : OwnI B w (.slice none 0 0) [] := World.ownsRow_nil _ _ _ _

/-- What one append does to an own row. -/
theorem OwnI.app {B : Nat} {w wr w1 : World} {v v' : Value} {o : Obj} {q : List Int} {x : Int} (hB : Below B w wr) (hs : B ≤ w.heap.size) (hown : OwnI B wr v q)
    (hown' : w1.ownsRow B 21 1 v' (q.length + 1) (iv q ++ [.int .i32 x])) (hg : (wr.alloc o).grownBy w1 v.ownBlock) : OwnI B w1 v' (q ++ [x]) ∧ Below B w w1 := by
  have hs' := hB.size
  refine ⟨?_, ?_⟩
  · unfold OwnI
    rw [List.length_append, iv_append]
    exact hown'
  · exact (hB.alloc (by omega) o).grown hg (by simp; omega) (fun k hk => (hown.lt k hk).1)

theorem OwnI.ints {B : Nat} {w : World} {v : Value} {q : List Int} (h : OwnI B w v q) (hn : q.length ≤ 1048577) : IntsF B w v q := by
  rcases h.2 with ⟨rfl, h0⟩ | ⟨g, cap, cur, rfl, hb, hh, hc, _, _, _⟩
  · have e : q = [] := List.eq_nil_of_length_eq_zero h0
    subst e
    exact ⟨none, 0, rfl, by simp, ⟨by simp, .inl rfl⟩, AddrFrom.none _⟩
  · refine ⟨some ⟨g, 0, none⟩, cap, rfl, hc, ⟨by omega, .inr ⟨g, 0, rfl, fun i hi => ?_⟩⟩, AddrFrom.some hb⟩
    have := h.cells (g := g) rfl i (.int .i32 (q.getD i 0)) (by simp [iv, hi])
    rwa [addPlain] at this

theorem flat_len (Q : Nat → List Int) (n : Nat) : (flat Q n).length = sumL Q n := by
  induction n with
  | zero => rfl
  | succ n ih => simp [flat, sumL, ih]

/-- What sortedUnion returns. -/
def UnionPost (w : World) (n : Nat) (Q : Nat → List Int) (e : Ending) (w' : World) : Prop :=
  ∃ v u, e = .returned v ∧ IntsF w.heap.size w' v u ∧ u.Pairwise (· < ·) ∧ (∀ x, x ∈ u ↔ ∃ i, i < n ∧ x ∈ Q i) ∧ u.length ≤ 1048576 ∧ Below w.heap.size w w'

theorem ded_step (f : Nat → Int) (k : Nat) (h : k = 0 ∨ f (k - 1) ≠ f k) : ded f (k + 1) = ded f k ++ [f k] := by rw [ded, if_pos h]
theorem ded_skip (f : Nat → Int) (k : Nat) (h0 : k ≠ 0) (h : f (k - 1) = f k) : ded f (k + 1) = ded f k := by rw [ded, if_neg (by rintro (e | e); exact h0 e; exact e h)]

theorem take_next {q : List Int} {l : Nat} (h : l < q.length) : q.take (l + 1) = q.take l ++ [q.getD l 0] := by
  rw [List.take_add_one]
  simp [h]

set_option maxRecDepth 100000 in
set_option maxHeartbeats 2000000 in
theorem union16 (a : Option Addr) (n c : Nat) (V : Nat → Value) (Q : Nat → List Int) (w : World) (h : Ls w a n V Q) (hs : sumL Q n ≤ 1048576) (hn : n ≤ 1048576) :
    Calls Try.prog 16 #[.slice a n c] w (UnionPost w n Q) := by
  obtain ⟨i0, hi, hz0, hz1, hz2⟩ := info_parts Try.info21
  have C14 := hid (total14 a n c V Q w h hs hn)
  have HL := hid h
  clear h
  go_enter Try.func16, Try.ntmps16
  go_wp2_with fail
  refine C14.out.mono ?_
  rintro e w' ⟨rfl, hw⟩
  obtain rfl := hw.symm
  go_wp2_with (first
    | (at_make; refine wpList_make_own _ rfl _ _ 26 rfl w.heap.size 21 i0 (.int .i32 0) 1 Try.underlying26 hi hz0 hz1 .i64 .i64 _ (sumL Q n) rfl rfl (by omega) (by rw [hz2]; omega) (by unfold maxLen; omega) (Nat.le_refl _) ?_)
    | fail)
  intro w1 hown1 hg1
  have b1 : Below w.heap.size w w1 := ⟨hg1.os, hg1.tape, hg1.output, hg1.size, fun k hk => hg1.block k hk (by simp)⟩
  have O1 := hid (show OwnI w.heap.size w1 (.slice (some ⟨w.heap.size, 0, none⟩) 0 (sumL Q n)) [] from hown1)
  clear hown1 hg1
  go_wp2_with fail
  go_loopw [3, 4, 5] (fun v i _ wr => ∃ k : Nat, k ≤ n ∧ i = .int .i64 k ∧ Hid (OwnI w.heap.size wr v (flat Q k)) ∧ Below w.heap.size w wr) (fun _ i _ _ => n - (intOf i).toNat)
  case atStart => exact ⟨0, Nat.zero_le _, rfl, O1, b1⟩
  case round =>
    clear b1 O1
    obtain ⟨k, hk, rfl, HO, hbel⟩ := hrel
    by_cases hlt : k < n
    · go_wp2_with fail
      go_loopw [3, 5] (fun v i wr => ∃ l : Nat, l ≤ (Q k).length ∧ i = .int .i64 l ∧ Hid (OwnI w.heap.size wr v (flat Q k ++ (Q k).take l)) ∧ Below w.heap.size w wr) (fun _ i _ => (Q k).length - (intOf i).toNat)
      case atStart => exact ⟨0, Nat.zero_le _, rfl, hid (by simpa using HO.out), hbel⟩
      case round =>
        clear HO hbel
        obtain ⟨l, hl, rfl, HO, hbel⟩ := hrel
        obtain ⟨b, off, a', c', rfl, hc, _, _, hsk, hA⟩ := (HL.out.later hbel).at hlt
        have hli : (k : Int) < (n : Int) := by omega
        by_cases hll : l < (Q k).length
        · obtain ⟨b2, o2, rfl, hc2⟩ := hA.at hll
          have hlj : (l : Int) < ((Q k).length : Int) := by omega
          have HT := hid (take_next hll)
          have hfl : (flat Q k ++ (Q k).take l).length ≤ 1048575 := by
            have h1 := sumL_mono Q (m := k + 1) (n := n) hlt
            simp only [sumL] at h1
            rw [List.length_append, flat_len, List.length_take]
            omega
          have HFL := hid hfl
          have HE := hid (List.append_assoc (flat Q k) ((Q k).take l) [(Q k).getD l 0])
          have hbs := hbel.size
          generalize (Q k).getD l 0 = x at hc2 HT HE
          obtain ⟨z, hz⟩ : ∃ z, z = flat Q k ++ (Q k).take l := ⟨_, rfl⟩
          rw [← hz] at HO hfl HE
          have HZ := hid hz
          clear hz hA
          go_wp2_with (first
            | (at_builtin; refine wpList_append_own _ rfl _ _ 26 rfl w.heap.size 21 i0 (.int .i32 0) 1 4 Try.underlying26 hi hz0 hz1 hz2 rfl (by decide) _ _ _ rfl (World.ownsRow.alloc HO.out _) ⟨wr.heap.size, 0, none⟩ 1 1 [.int .i32 x] rfl rfl (cell_one _ _ _) (by intro u hu; simp at hu; subst hu; rfl) (by unfold maxLen; omega) (by omega) (by simp; omega) ?_)
            | fail)
          intro v' w2 hown' hgrow _
          obtain ⟨hown2, hbel2⟩ := OwnI.app hbel (Nat.le_refl _) HO.out hown' hgrow
          have HO2 := hid hown2
          clear hown' hgrow hown2 hbel HO
          go_wp2_with fail
          go_roundw
          case rel => exact ⟨l + 1, by omega, by go_num, hid (by rw [HT.out, ← HE.out]; exact HO2.out), hbel2⟩
          case measure => simp [intOf]; omega
        · have e : l = (Q k).length := by omega
          have HO2 : Hid (OwnI w.heap.size wr _ (flat Q (k + 1))) := hid (by
            have h2 := HO.out
            rw [e, List.take_length] at h2
            exact h2)
          clear HO
          generalize (Q k).length = m at hc hsk hl hll
          go_wp2_with fail
          go_roundw
          case rel => exact ⟨k + 1, by omega, by go_num, HO2, hbel⟩
          case measure => simp [intOf]; omega
    · obtain rfl : k = n := by omega
      have hfl := flat_len Q k
      obtain ⟨a1, c1, hv1, hc1, hA1, _⟩ := HO.out.ints (by omega)
      obtain ⟨m, hm⟩ : ∃ m, m = (flat Q k).length := ⟨_, rfl⟩
      rw [← hm] at hv1 hA1
      subst hv1
      have hm1 : m ≤ 1048576 := by omega
      have CS := hid (sort40 a1 c1 m (fun j => (flat Q k).getD j 0) wr hA1 hm1)
      have HM := hid hm
      have HB := hid hbel
      clear hA1 hm hfl hbel
      go_wp2_with fail
      refine CS.out.mono ?_
      rintro e w2 ⟨b, f, rfl, hrow, hsrt, hsame, hb2⟩
      have HR := hid hrow
      have HT := hid hsrt
      have HE := hid hsame
      have HB2 : Hid (Below w.heap.size w w2) := hid (HB.out.trans (hb2.mono HB.out.size))
      have hrl := hrow.lt
      clear hrow hsrt hsame hb2 HB HO CS
      go_wp2_with fail
      go_loopw [7, 8] (fun v i wr => ∃ l : Nat, l ≤ m ∧ i = .int .i64 l ∧ Hid (OwnI w2.heap.size wr v (ded f l)) ∧ Below w2.heap.size w2 wr) (fun _ i _ => m - (intOf i).toNat)
      case atStart => exact ⟨0, Nat.zero_le _, rfl, hid (OwnI.nil _ _), Below.refl _ _⟩
      case round =>
        obtain ⟨l, hl, rfl, HO, hbel⟩ := hrel
        by_cases hlt2 : l < m
        · have hcb := (HR.out.of_block (hbel.block b hrl)).cell hlt2
          unfold iF at hcb
          have hli : (l : Int) < (m : Int) := by omega
          have hdl := ded_len f l
          obtain ⟨a7, c7, hv7, hc7, hA7, _⟩ := HO.out.ints (by omega)
          have HB3 := hid hbel
          have hws := hbel.size
          obtain ⟨p7, hp7⟩ : ∃ p7, p7 = (ded f l).length := ⟨_, rfl⟩
          rw [← hp7] at hv7 hA7 hdl
          subst hv7
          have O3 : Hid (wr.ownsRow w2.heap.size 21 1 (.slice a7 p7 c7) p7 (iv (ded f l))) := hid (by rw [hp7]; have := HO.out; rw [hp7] at this; exact this)
          clear hbel
          have HOp := hid (show OwnI w2.heap.size wr (.slice a7 p7 c7) (ded f l) from HO.out)
          have HP := hid hp7
          clear HO
          by_cases hl0 : l = 0
          · subst hl0
            have hp0 : p7 = 0 := by omega
            subst hp0
            have HS := hid (ded_step f 0 (.inl rfl))
            have d0 : (((0 : Nat) : Int) == 0) = true := by decide
            clear hp7 hA7
            go_wp2_with fail
            go_quiet (fail)
            go_wp2_with (first
              | (at_builtin; refine wpList_append_own _ rfl _ _ 26 rfl w2.heap.size 21 i0 (.int .i32 0) 1 4 Try.underlying26 hi hz0 hz1 hz2 rfl (by decide) _ _ _ rfl (World.ownsRow.alloc (w := wr.drewN nq) O3.out _) ⟨wr.heap.size, 0, none⟩ 1 1 [.int .i32 (f 0)] rfl rfl (cell_one (wr.drewN nq) _ _) (by intro u hu; simp at hu; subst hu; rfl) (by unfold maxLen; omega) (by omega) (by simp; omega) ?_)
              | fail)
            intro v' w3 hown' hgrow _
            obtain ⟨hown2, hbel2⟩ := OwnI.app (wr := wr.drewN nq) (belowN HB3.out nq) (Nat.le_refl _) HOp.out (by rw [← HP.out]; exact hown') hgrow
            have HO2 := hid hown2
            clear hown' hgrow hown2
            go_wp2_with fail
            go_roundw
            case rel => exact ⟨0 + 1, by omega, by go_num, hid (by rw [HS.out]; exact HO2.out), hbel2⟩
            case measure => simp [intOf]; omega
          · obtain ⟨r, rfl⟩ : ∃ r, l = r + 1 := ⟨l - 1, by omega⟩
            have hpos := ded_pos f r
            obtain ⟨p, hpp⟩ : ∃ p, p7 = p + 1 := ⟨p7 - 1, by omega⟩
            obtain ⟨b7, o7, rfl, c7l⟩ := hA7.at (k := p) (by omega)
            have hlast := ded_lastD f r
            rw [← hp7, hpp, Nat.add_sub_cancel] at hlast
            rw [hlast] at c7l
            have d0 : ((p7 : Int) == 0) = false := by simp; omega
            have d1 : (p7 : Int) - 1 = (p : Int) := by omega
            have i1 : (0 : Int) ≤ (p : Int) := by omega
            have i2 : (p : Int) < (p7 : Int) := by omega
            have i3 : p7 ≤ 1048576 := by omega
            clear hp7 hA7 hlast hpos hpp
            by_cases hne : f r = f (r + 1)
            · have d2 : (f r == f (r + 1)) = true := by simp [hne]
              have HS := hid (ded_skip f (r + 1) (by omega) hne)
              clear hne
              go_wp2_with fail
              go_quiet (fail)
              go_wp2_with fail
              go_roundw
              case rel => exact ⟨r + 1 + 1, by omega, by go_num, hid (by rw [HS.out]; exact HOp.out), belowN HB3.out _⟩
              case measure => simp [intOf]; omega
            · have d2 : (f r == f (r + 1)) = false := by simp [hne]
              have HS := hid (ded_step f (r + 1) (.inr hne))
              clear hne
              go_wp2_with fail
              go_quiet (fail)
              go_wp2_with (first
                | (at_builtin; refine wpList_append_own _ rfl _ _ 26 rfl w2.heap.size 21 i0 (.int .i32 0) 1 4 Try.underlying26 hi hz0 hz1 hz2 rfl (by decide) _ _ _ rfl (World.ownsRow.alloc (w := wr.drewN nq) O3.out _) ⟨wr.heap.size, 0, none⟩ 1 1 [.int .i32 (f (r + 1))] rfl rfl (cell_one (wr.drewN nq) _ _) (by intro u hu; simp at hu; subst hu; rfl) (by unfold maxLen; omega) (by omega) (by simp; omega) ?_)
                | fail)
              intro v' w3 hown' hgrow _
              obtain ⟨hown2, hbel2⟩ := OwnI.app (wr := wr.drewN nq) (belowN HB3.out nq) (Nat.le_refl _) HOp.out (by rw [← HP.out]; exact hown') hgrow
              have HO2 := hid hown2
              clear hown' hgrow hown2
              go_wp2_with fail
              go_roundw
              case rel => exact ⟨r + 1 + 1, by omega, by go_num, hid (by rw [HS.out]; exact HO2.out), hbel2⟩
              case measure => simp [intOf]; omega
        · go_wp2_with fail
          go_ret
          have e : l = m := by omega
          subst e
          have hdl := ded_len f l
          refine ⟨_, ded f l, rfl, (HO.out.ints (by omega)).mono HB2.out.size, ded_asc HT.out l (Nat.le_refl _), fun x => ?_, by omega, HB2.out.trans (hbel.mono HB2.out.size)⟩
          rw [mem_ded, HE.out x, ← mem_flat]
          have hm := HM.out
          constructor
          · rintro ⟨p, hp, rfl⟩
            have : p < (flat Q k).length := by omega
            simp [this]
          · intro hx
            obtain ⟨p, hp, e⟩ := List.mem_iff_getElem.1 hx
            exact ⟨p, by omega, by simpa [hp] using e⟩
end Go.Proofs.Qxb6600159a
