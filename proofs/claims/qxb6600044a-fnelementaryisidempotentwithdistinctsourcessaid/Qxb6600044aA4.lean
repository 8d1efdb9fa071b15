import Derived.Test.Qxb6600044aA3
import Derived.Test.Qxb6600044aP1
namespace Go.Proofs.Qxb6600044a
open Go.RowKit
set_option linter.unusedVariables false

/-- The value of 'before': no read yet (nil), or the list of read p. -/
def befV (V : Nat → Value) : Option Nat → Value
  | none => .slice none 0 0
  | some p => V p

/-- Integers as cells. -/
def iv (xs : List Int) : List Value := xs.map (Value.int .i64)

/-- The script lies in the world: keys, reads, elements, lists. -/
structure Script (w : World) (a0 a1 a2 a3 : Option Addr) (n0 n1 n2 n3 : Nat) (K : Nat → Int) (R : Nat → Bool) (E : Nat → Int) (V : Nat → Value) (L : Nat → Nat) (Z : Nat → Nat → Int) : Prop where
  keys : Arr w a0 n0 fun i => .int .u8 (K i)
  kb : ∀ i, 0 ≤ K i ∧ K i ≤ 255
  reads : Arr w a1 n1 fun i => .bool (R i)
  elems : Arr w a2 n2 fun i => .int .i64 (E i)
  lists : Arr w a3 n3 V
  inner : ∀ i, i < n3 → Ints 0 w (V i) (L i) (Z i)

theorem Script.later {w w' : World} {a0 a1 a2 a3 : Option Addr} {n0 n1 n2 n3 : Nat} {K : Nat → Int} {R : Nat → Bool} {E : Nat → Int} {V : Nat → Value} {L : Nat → Nat} {Z : Nat → Nat → Int}
    (h : Script w a0 a1 a2 a3 n0 n1 n2 n3 K R E V L Z) (hb : Below w.heap.size w w') : Script w' a0 a1 a2 a3 n0 n1 n2 n3 K R E V L Z :=
  ⟨h.keys.later hb, h.kb, h.reads.later hb, h.elems.later hb, h.lists.later hb, fun i hi => (h.inner i hi).later hb⟩

def ReplayPost (w : World) (V : Nat → Value) (f : Option Nat × List Int) (e : Ending) (w' : World) : Prop :=
  ∃ vs, e = .returned (.tuple #[befV V f.1, vs]) ∧ w'.ownsRow w.heap.size 2 1 vs f.2.length (iv f.2) ∧ Below w.heap.size w w'

theorem Arr.cell {w : World} {b off n : Nat} {f : Nat → Value} (h : Arr w (some ⟨b, off, none⟩) n f) {k : Nat} (hk : k < n) : w.cell? ⟨b, off + k, none⟩ = some (f k) := by
  obtain ⟨b', o', e, hc⟩ := h.at hk
  cases e
  exact hc

/-- What one append does to an owned row of integers. -/
theorem own_app {w wr w1 : World} {B t : Nat} {v v' : Value} {o : Obj} {xs : List Int} {x : Int} (hB : Below B w wr) (hs : B ≤ w.heap.size) (hown : wr.ownsRow B t 1 v xs.length (iv xs))
    (hown' : w1.ownsRow B t 1 v' (xs.length + 1) (iv xs ++ [.int .i64 x])) (hg : (wr.alloc o).grownBy w1 v.ownBlock) :
    w1.ownsRow B t 1 v' (xs ++ [x]).length (iv (xs ++ [x])) ∧ Below B w w1 := by
  have hs' := hB.size
  refine ⟨?_, ?_⟩
  · have e1 : (xs ++ [x]).length = xs.length + 1 := by simp
    have e2 : iv (xs ++ [x]) = iv xs ++ [.int .i64 x] := by simp [iv]
    rw [e1, e2]; exact hown'
  · exact (hB.alloc (by omega) o).grown hg (by simp; omega) (fun k hk => (hown.lt k hk).1)

set_option maxHeartbeats 1000000 in
theorem replay33 (a0 a1 a2 a3 : Option Addr) (n0 n1 n2 n3 c0 c1 c2 c3 : Nat) (K : Nat → Int) (R : Nat → Bool) (E : Nat → Int) (V : Nat → Value) (L : Nat → Nat) (Z : Nat → Nat → Int) (j : Nat) (w : World)
    (S : Script w a0 a1 a2 a3 n0 n1 n2 n3 K R E V L Z) (h0 : j < n0) (h1 : j < n1) (h2 : j < n2) (h3 : j < n3) (hj : j ≤ 65536) :
    Calls Try.prog 33 #[.slice a0 n0 c0, .slice a1 n1 c1, .slice a2 n2 c2, .slice a3 n3 c3, .int .i64 (j : Int)] w (ReplayPost w V (fwd K R E (K j % 4) j)) := by
  obtain ⟨i0, hi, hz0, hz1, hz2⟩ := info_parts Try.info2
  obtain ⟨b0, o0, rfl, hcj⟩ := S.keys.at h0
  obtain ⟨b1, o1, rfl, _⟩ := S.reads.at h1
  obtain ⟨b2, o2, rfl, _⟩ := S.elems.at h2
  obtain ⟨b3, o3, rfl, _⟩ := S.lists.at h3
  have hKj := S.kb j
  go_enter Try.func33, Try.ntmps33
  go_wp2
  clear hcj
  go_loopw [12, 13, 15] (fun vb vs i wr => ∃ k : Nat, k ≤ j ∧ i = .int .i64 k ∧ vb = befV V (fwd K R E (K j % 4) k).1 ∧ wr.ownsRow w.heap.size 2 1 vs (fwd K R E (K j % 4) k).2.length (iv (fwd K R E (K j % 4) k).2) ∧ Below w.heap.size w wr) (fun _ _ i _ => j - (intOf i).toNat)
  case atStart => exact ⟨0, Nat.zero_le _, rfl, rfl, World.ownsRow_nil _ _ _ _, Below.refl _ _⟩
  case round =>
    obtain ⟨k, hk, rfl, rfl, hown, hbel⟩ := hrel
    by_cases hlt : k < j
    · have ck := cell_later hbel (S.keys.cell (k := k) (by omega))
      have hKk := S.kb k
      by_cases hK : K k % 4 = K j % 4
      · have hb : (K k % 4 != K j % 4) = false := by simp [hK]
        have HK : Hid (K k % 4 = K j % 4) := hK
        clear hK
        have cr := cell_later hbel (S.reads.cell (k := k) (by omega))
        cases hR : R k
        · rw [hR] at cr
          have ce := cell_later hbel (S.elems.cell (k := k) (by omega))
          have hlen := fwd_len K R E (K j % 4) k
          have HR : Hid (R k = false) := hR
          clear hR
          go_wp2_with (first
            | (at_builtin; refine wpList_append_own _ rfl _ _ 32 rfl w.heap.size 2 i0 (.int .i64 0) 1 8 Try.underlying32 hi hz0 hz1 hz2 rfl (by decide) _ _ _ rfl (hown.alloc _) ⟨wr.heap.size, 0, none⟩ 1 1 [.int .i64 (E k)] rfl rfl ?c1 ?c2 ?c3 ?c4 ?c5 ?_)
            | go_in)
          case c1 => exact cell_one_new _ _ _
          case c2 => intro u hu; simp at hu; subst hu; rfl
          case c3 => unfold maxLen; omega
          case c4 => omega
          case c5 => have := hbel.size; simp; omega
          intro v' w1 hown' hgrow _
          obtain ⟨hown1, hbel1⟩ := own_app hbel (Nat.le_refl _) hown hown' hgrow
          clear hown' hgrow hown ck cr ce hbel
          go_wp2
          go_roundw
          case rel =>
            have e := fwd_app K R E (K j % 4) k HK.out HR.out
            exact ⟨k + 1, by omega, by go_num, by rw [e], by rw [e]; exact hown1, hbel1⟩
          case measure => simp [intOf]; omega
        · rw [hR] at cr
          have cl := cell_later hbel (S.lists.cell (k := k) (by omega))
          have HR : Hid (R k = true) := hR
          clear hR
          go_wp2
          go_roundw
          case rel =>
            have e := fwd_read K R E (K j % 4) k HK.out HR.out
            exact ⟨k + 1, by omega, by go_num, by rw [e]; rfl, by rw [e]; exact World.ownsRow_nil _ _ _ _, hbel⟩
          case measure => simp [intOf]; omega
      · have hb : (K k % 4 != K j % 4) = true := by simp [hK]
        go_wp2
        go_roundw
        case rel =>
          have e := fwd_skip K R E (K j % 4) k hK
          exact ⟨k + 1, by omega, by go_num, by rw [e], by rw [e]; exact hown, hbel⟩
        case measure => simp [intOf]; omega
    · obtain rfl : k = j := by omega
      go_wp2
      go_ret2
      exact ⟨_, rfl, hown, hbel⟩
end Go.Proofs.Qxb6600044a
