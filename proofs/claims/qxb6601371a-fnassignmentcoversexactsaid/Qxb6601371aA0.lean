import Derived.Test.Qxb6601371aRows
import Derived.WalkKit
import Derived.WalkSpells
import Derived.WalkLawsBesides
import Derived.Deep.OwnRows
import Derived.Deep.QuietTactic
import Derived.BigQuiet
import Derived.Deep.RegionHeld3
import Derived.Deep.Light
import Derived.Deep.CutBlock
import Derived.Deep.DeepCutAuto
namespace Go.Proofs.Qxb6601371a
open Go.RowKit
set_option linter.unusedVariables false

theorem hid {p : Prop} (h : p) : Hid p := h

/-- A slice value with address 'a' and length 'n' shows the cells 'f 0', .., 'f (n-1)' in the world. -/
def Arr (w : World) (a : Option Addr) (n : Nat) (f : Nat → Value) : Prop :=
  n ≤ 9223372036854775807 ∧ (n = 0 ∨ ∃ b off, a = some ⟨b, off, none⟩ ∧ ∀ i, i < n → w.cell? ⟨b, off + i, none⟩ = some (f i))

theorem Arr.at {w : World} {a : Option Addr} {n : Nat} {f : Nat → Value} (h : Arr w a n f) {k : Nat} (hk : k < n) :
    ∃ b off, a = some ⟨b, off, none⟩ ∧ w.cell? ⟨b, off + k, none⟩ = some (f k) := by
  rcases h.2 with h0 | ⟨b, off, rfl, hc⟩
  · omega
  · exact ⟨b, off, rfl, hc k hk⟩

theorem Arr.cell {w : World} {b off n : Nat} {f : Nat → Value} (h : Arr w (some ⟨b, off, none⟩) n f) {k : Nat} (hk : k < n) : w.cell? ⟨b, off + k, none⟩ = some (f k) := by
  obtain ⟨b', o', e, hc⟩ := h.at hk
  cases e
  exact hc

theorem Arr.later {w w' : World} {a : Option Addr} {n : Nat} {f : Nat → Value} (h : Arr w a n f) (hb : Below w.heap.size w w') : Arr w' a n f := by
  refine ⟨h.1, ?_⟩
  rcases h.2 with h0 | ⟨b, off, rfl, hc⟩
  · exact .inl h0
  · exact .inr ⟨b, off, rfl, fun i hi => cell_later hb (hc i hi)⟩

theorem Arr.ofRow {w : World} {b t n : Nat} {f : Nat → Value} (h : w.rowIs b t n f) (hn : n ≤ 9223372036854775807) : Arr w (some ⟨b, 0, none⟩) n f :=
  ⟨hn, .inr ⟨b, 0, rfl, fun i hi => by rw [Nat.zero_add]; exact h.cell hi⟩⟩

theorem Arr.congr {w : World} {a : Option Addr} {n : Nat} {f g : Nat → Value} (h : Arr w a n f) (e : ∀ i, i < n → f i = g i) : Arr w a n g := by
  refine ⟨h.1, ?_⟩
  rcases h.2 with h0 | ⟨b, off, rfl, hc⟩
  · exact .inl h0
  · exact .inr ⟨b, off, rfl, fun i hi => by rw [hc i hi, e i hi]⟩

theorem Arr.nil {w : World} {n : Nat} {f : Nat → Value} (h : Arr w none n f) : n = 0 := by
  rcases h.2 with h0 | ⟨b, off, h', _⟩
  · exact h0
  · cases h'

theorem Arr.take {w : World} {a : Option Addr} {n m : Nat} {f : Nat → Value} (h : Arr w a n f) (hm : m ≤ n) : Arr w a m f := by
  refine ⟨Nat.le_trans hm h.1, ?_⟩
  rcases h.2 with h0 | ⟨b, off, rfl, hc⟩
  · exact .inl (by omega)
  · exact .inr ⟨b, off, rfl, fun i hi => hc i (by omega)⟩

theorem Arr.drewN {w : World} {a : Option Addr} {n : Nat} {f : Nat → Value} (h : Arr w a n f) (m : Nat) : Arr (w.drewN m) a n f := h

/-- The address, where there is one, lies in a block from B on. -/
def AddrFrom (B : Nat) (a : Option Addr) : Prop := ∀ p, a = some p → B ≤ p.block
theorem AddrFrom.none (B : Nat) : AddrFrom B none := fun p h => by cases h
theorem AddrFrom.some {B : Nat} {p : Addr} (h : B ≤ p.block) : AddrFrom B (some p) := fun q hq => by cases hq; exact h
theorem AddrFrom.mono {B B' : Nat} {a : Option Addr} (h : AddrFrom B a) (hb : B' ≤ B) : AddrFrom B' a := fun p hp => Nat.le_trans hb (h p hp)

/-- A store into a block below the slice's own leaves the slice's cells alone. -/
theorem Arr.setCell {w : World} {a : Option Addr} {n : Nat} {f : Nat → Value} {p : Addr} (h : Arr w a n f) (ha : AddrFrom (p.block + 1) a) (u : Value) : Arr (w.setCell p u) a n f := by
  refine ⟨h.1, ?_⟩
  rcases h.2 with h0 | ⟨b, off, rfl, hc⟩
  · exact .inl h0
  · refine .inr ⟨b, off, rfl, fun i hi => ?_⟩
    have hb := ha _ rfl
    exact (World.cell?_of_block (a := ⟨b, off + i, .none⟩) (Below.heap_setCell w p u b (by simp only at hb; omega))).trans (hc i hi)

/-- What a clone returns: a slice in new memory with the same cells. -/
def RetArr (w : World) (n : Nat) (f : Nat → Value) (e : Ending) (w' : World) : Prop :=
  ∃ a' c', e = .returned (.slice a' n c') ∧ Arr w' a' n f ∧ AddrFrom w.heap.size a' ∧ Below w.heap.size w w'

/-- The call returns some bool; if it is true then p; the world stands. -/
def RetB (w : World) (p : Prop) (e : Ending) (w' : World) : Prop := ∃ b : Bool, e = .returned (.bool b) ∧ (b = true → p) ∧ w' = w
theorem retF (w : World) (p : Prop) : RetB w p (.returned (.bool false)) w := ⟨false, rfl, fun h => (by cases h), rfl⟩
theorem retT (w : World) (p : Prop) (h : p) : RetB w p (.returned (.bool true)) w := ⟨true, rfl, fun _ => h, rfl⟩

theorem step_if (i k : Nat) (f : Nat → Value) (d : Value) : (if i = k then f k else if i < k then f i else d) = if i < k + 1 then f i else d := by
  by_cases e : i = k
  · subst e; simp
  · by_cases e2 : i < k
    · rw [if_neg e, if_pos e2, if_pos (by omega)]
    · rw [if_neg e, if_neg e2, if_neg (by omega)]

theorem cell_alloc {w : World} {a : Addr} {v : Value} (h : w.cell? a = some v) (o : Obj) : (w.alloc o).cell? a = some v := cell_later ((Below.refl _ _).alloc (Nat.le_refl _) o) h
theorem frozen_alloc {w : World} {a : Addr} {v : Value} (h : w.cell? a = some v) (hf : w.frozen? a = false) (o : Obj) : (w.alloc o).frozen? a = false :=
  (((Below.refl _ _).alloc (Nat.le_refl _) o).frozen (World.block_lt_of_cell? _ _ h)).trans hf

theorem addPlain (b o i : Nat) : (⟨b, o, none⟩ : Addr).add i = ⟨b, o + i, none⟩ := by unfold Addr.add; split <;> simp_all

theorem resF {w : World} {b : Nat} {c : Array Value} {t : Nat} (h : w.heap[b]? = some (.cells c t (0, 0))) (i : Nat) : w.frozen? ⟨b, i, none⟩ = false := by simp [World.frozen?, h]
theorem resC {w : World} {b : Nat} {c : Array Value} {t : Nat} (h : w.heap[b]? = some (.cells c t (0, 0))) (i : Nat) (v : Value) (hi : c[i]? = some v) : w.cell? ⟨b, i, none⟩ = some v := by simp [World.cell?, h, hi]
theorem setCell_heap {w : World} {b : Nat} {c : Array Value} {t : Nat} (h : w.heap[b]? = some (.cells c t (0, 0))) (i : Nat) (v : Value) : (w.setCell ⟨b, i, none⟩ v).heap[b]? = some (.cells (c.setIfInBounds i v) t (0, 0)) := by
  simp [World.setCell, Array.getElem?_modify, h]

/-- The law returns true and has written nothing that was there. -/
def LawPost (w : World) (e : Ending) (w' : World) : Prop := e = .returned (.bool true) ∧ Below w.heap.size w w'

theorem belowN {B : Nat} {w w' : World} (h : Below B w w') (m : Nat) : Below B w (w'.drewN m) := ⟨h.os, h.tape, h.output, h.size, h.block⟩

theorem Try.info2 : (Try.prog.info? 2).map (fun i => (i.zero, i.size, i.bytes)) = some (some (.int .i64 0), 1, 8) := by kernel_rfl

set_option maxHeartbeats 400000 in
theorem clone10 (a : Option Addr) (n c : Nat) (z : Nat → Int) (w : World) (h : Arr w a n fun i => .int .i64 (z i)) (hn : n ≤ 1048576) :
    Calls Try.prog 10 #[.slice a n c] w (RetArr w n fun i => .int .i64 (z i)) := by
  have q : ∀ (w : World) (a : Option Addr) (n c n' c' : Nat), (binOp .eql 22 (.slice a n c) (.slice none n' c')).run Try.prog w = .ok (.bool a.isNone) w := fun w a n c n' c' => Lib.run_eql_slice_nil w _ _ a n c n' c' Try.underlying22
  rcases a with _ | p
  · obtain rfl := h.nil
    go_enter Try.func10, Try.ntmps10
    go_wp2
    go_ret
    exact ⟨_, _, rfl, ⟨by omega, .inl rfl⟩, AddrFrom.none _, Below.refl _ _⟩
  · have hmk := run_make_row' (P := Try.prog) 22 2 (.int .i64 0) _ Try.underlying22 Try.info2 rfl .i64 .i64 n (by omega) (by omega)
    go_enter Try.func10, Try.ntmps10
    go_wp2
    clear hmk q
    go_loopw [4] (fun i wr => ∃ k : Nat, k ≤ n ∧ i = .int .i64 k ∧ wr.rowIs w.heap.size 2 n (fun j => if j < k then .int .i64 (z j) else (.int .i64 0)) ∧ Below w.heap.size w wr) (fun i _ => n - (intOf i).toNat)
    case atStart => exact ⟨0, Nat.zero_le _, rfl, (World.rowIs_made w _ n 2).congr (fun i hi => by simp), (Below.refl _ _).alloc (Nat.le_refl _) _⟩
    case round =>
      obtain ⟨k, hk, rfl, hrow, hbel⟩ := hrel
      by_cases hlt : k < n
      · obtain ⟨b, off, hp, hcell⟩ := h.at hlt
        simp only [Option.some.injEq] at hp
        subst hp
        have hcw := cell_later hbel hcell
        have hfr := hrow.frozen k
        have hold := hrow.cell hlt
        have hnew := hrow.set k (.int .i64 (z k))
        have hbel' := hbel.setCell (p := ⟨w.heap.size, k, none⟩) (Nat.le_refl _) (.int .i64 (z k))
        clear hcell hrow
        go_wp2
        go_roundw
        case rel => exact ⟨k + 1, by omega, by go_num, hnew.congr (fun i hi => step_if i k (fun j => .int .i64 (z j)) _), hbel'⟩
        case measure => simp [intOf]; omega
      · go_wp2
        go_ret
        have : k = n := by omega
        subst this
        refine ⟨_, _, rfl, Arr.ofRow (hrow.congr fun i hi => by simp [hi]) (by omega), AddrFrom.some (Nat.le_refl _), hbel⟩

end Go.Proofs.Qxb6601371a
