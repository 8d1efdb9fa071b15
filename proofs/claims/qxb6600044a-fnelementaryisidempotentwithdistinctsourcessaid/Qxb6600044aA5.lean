import Derived.Test.Qxb6600044aA4
import Derived.Deep.RegionHeld3
import Derived.Deep.Light
namespace Go.Proofs.Qxb6600044a
open Go.RowKit
set_option linter.unusedVariables false

theorem hid {p : Prop} (h : p) : Hid p := h
theorem Try.info64 : (Try.prog.info? 64).map (fun i => (i.zero, i.size, i.bytes)) = some (some (.agg #[.bool false, .string ⟨#[]⟩, .int .i64 0, .slice none 0 0]), 4, 56) := by kernel_rfl

def mopZ : Array Value := #[.bool false, .string ⟨#[]⟩, .int .i64 0, .slice none 0 0]

theorem make43 (n : Nat) (hn : n ≤ 1048576) (w : World) :
    (Instr.makeSlice 43 (.int .i64 (n : Int)) (.int .i64 (n : Int))).run Try.prog w = .ok (.slice (some ⟨w.heap.size, 0, none⟩) n n) (w.alloc (.cells (madeCells mopZ (n * 4)) 64)) := by
  obtain ⟨i0, hi, hz0, hz1, hz2⟩ := info_parts Try.info64
  have h := run_make (P := Try.prog) w 43 64 i0 _ Try.underlying43 hi hz0 .i64 .i64 n n (by omega) (by omega) (by rw [hz2]; omega) (by omega)
  rw [h, hz1]
  simp [mopZ, Value.cells]

/-- The cells of the script's micro-operations, four each. -/
def mopCell (K : Nat → Int) (R : Nat → Bool) (E : Nat → Int) (V : Nat → Value) (x : Nat) : Value :=
  if x % 4 = 0 then .bool (R (x / 4)) else if x % 4 = 1 then .string (keyStr (K (x / 4))) else if x % 4 = 2 then .int .i64 (if R (x / 4) = true then 0 else E (x / 4))
  else if R (x / 4) = true then V (x / 4) else .slice none 0 0

theorem cell_alloc {w : World} {a : Addr} {v : Value} (h : w.cell? a = some v) (o : Obj) : (w.alloc o).cell? a = some v := cell_later ((Below.refl _ _).alloc (Nat.le_refl _) o) h
theorem frozen_alloc {w : World} {a : Addr} {v : Value} (h : w.cell? a = some v) (hf : w.frozen? a = false) (o : Obj) : (w.alloc o).frozen? a = false :=
  (((Below.refl _ _).alloc (Nat.le_refl _) o).frozen (World.block_lt_of_cell? _ _ h)).trans hf

structure BRel (w wr : World) (n k : Nat) (K : Nat → Int) (R : Nat → Bool) (E : Nat → Int) (V : Nat → Value) : Prop where
  mops : wr.rowIs w.heap.size 64 (n * 4) (fun x => if x < k * 4 then mopCell K R E V x else mopZ[x % 4]!)
  prev : wr.rowIs (w.heap.size + 1) 3 n (fun x => if x < k then .int .i64 (lastOf K (K x % 4) x) else .int .i64 0)
  last : wr.rowIs (w.heap.size + 1 + 1) 78 4 (fun x => .int .i64 (lastOf K x k))
  below : Below w.heap.size w wr

/-- Behind the statement that lays the round's own Mop: it lies in a block bm of its own; all that was there is as it was. -/
structure Laid (wr w2 : World) (bm : Nat) (r : Bool) (s : ByteArray) : Prop where
  below : Below wr.heap.size wr w2
  c0 : w2.cell? ⟨bm, 0, none⟩ = some (.bool r)
  c1 : w2.cell? ⟨bm, 1, none⟩ = some (.string s)
  c2 : w2.cell? ⟨bm, 2, none⟩ = some (.int .i64 0)
  c3 : w2.cell? ⟨bm, 3, none⟩ = some (.slice none 0 0)
  f2 : w2.frozen? ⟨bm, 2, none⟩ = false
  f3 : w2.frozen? ⟨bm, 3, none⟩ = false
  ge : wr.heap.size ≤ bm

theorem laid_a (wr : World) (r : Bool) (s : ByteArray) (o : Obj) : Laid wr ((wr.alloc (.cells #[.bool r, .string s, .int .i64 0, .slice none 0 0] 64)).alloc o).drew wr.heap.size r s := by
  refine ⟨(((Below.refl _ _).alloc (Nat.le_refl _) _).alloc (by simp) _).drew, ?_, ?_, ?_, ?_, ?_, ?_, Nat.le_refl _⟩
  · exact cell_alloc (w := wr.alloc _) (a := ⟨wr.heap.size, 0, none⟩) (by simp) o
  · exact cell_alloc (w := wr.alloc _) (a := ⟨wr.heap.size, 1, none⟩) (by simp) o
  · exact cell_alloc (w := wr.alloc _) (a := ⟨wr.heap.size, 2, none⟩) (by simp) o
  · exact cell_alloc (w := wr.alloc _) (a := ⟨wr.heap.size, 3, none⟩) (by simp) o
  · exact frozen_alloc (w := wr.alloc _) (a := ⟨wr.heap.size, 2, none⟩) (v := .int .i64 0) (by simp) (by simp) o
  · exact frozen_alloc (w := wr.alloc _) (a := ⟨wr.heap.size, 3, none⟩) (v := .slice none 0 0) (by simp) (by simp) o

theorem laid_b (wr : World) (r : Bool) (s : ByteArray) (o : Obj) : Laid wr ((wr.alloc o).alloc (.cells #[.bool r, .string s, .int .i64 0, .slice none 0 0] 64)).drew (wr.heap.size + 1) r s := by
  have e : (wr.alloc o).heap.size = wr.heap.size + 1 := by simp
  refine ⟨(((Below.refl _ _).alloc (Nat.le_refl _) _).alloc (by simp) _).drew, ?_, ?_, ?_, ?_, ?_, ?_, by omega⟩
  all_goals rw [← e]; simp

theorem brel_start (w : World) (n : Nat) (K : Nat → Int) (R : Nat → Bool) (E : Nat → Int) (V : Nat → Value) :
    BRel w (((w.alloc (.cells (madeCells mopZ (n * 4)) 64)).alloc (.cells (madeCells #[.int .i64 0] n) 3)).alloc (.cells #[.int .i64 (-1), .int .i64 (-1), .int .i64 (-1), .int .i64 (-1)] 78)) n 0 K R E V := by
  refine ⟨?_, ?_, ?_, ?_⟩
  · have h := World.rowIs_alloc w (madeCells mopZ (n * 4)) 64 (fun x => mopZ[x % 4]!) (fun i hi => by
      rw [size_madeCells] at hi
      simp [madeCells, hi, mopZ])
    rw [size_madeCells] at h
    refine ((h.alloc _).alloc _).congr fun i hi => ?_
    simp
  · have h := World.rowIs_made (w.alloc (.cells (madeCells mopZ (n * 4)) 64)) (.int .i64 0) n 3
    have e : (w.alloc (.cells (madeCells mopZ (n * 4)) 64)).heap.size = w.heap.size + 1 := by simp
    rw [e] at h
    exact (h.alloc _).congr fun i hi => by simp
  · have h := World.rowIs_alloc ((w.alloc (.cells (madeCells mopZ (n * 4)) 64)).alloc (.cells (madeCells #[.int .i64 0] n) 3)) #[.int .i64 (-1), .int .i64 (-1), .int .i64 (-1), .int .i64 (-1)] 78 (fun x => .int .i64 (lastOf K x 0)) (fun i hi => by
      simp only [lastOf]
      match i, hi with
      | 0, _ => rfl
      | 1, _ => rfl
      | 2, _ => rfl
      | 3, _ => rfl)
    have e : ((w.alloc (.cells (madeCells mopZ (n * 4)) 64)).alloc (.cells (madeCells #[.int .i64 0] n) 3)).heap.size = w.heap.size + 1 + 1 := by simp
    rw [e] at h
    exact h
  · exact (((Below.refl _ _).alloc (Nat.le_refl _) _).alloc (by simp) _).alloc (by simp; omega) _

theorem brel_step {w wr wm : World} {bm n k : Nat} {K : Nat → Int} {R : Nat → Bool} {E : Nat → Int} {V : Nat → Value} (hrel : BRel w wr n k K R E V) (hb2 : Below wr.heap.size wr wm) (hbm : w.heap.size + 1 + 1 < bm)
    (hk : k < n) (hK : 0 ≤ K k) (q : Nat) (u v0 v1 v2 v3 : Value) (h0 : v0 = mopCell K R E V (k * 4)) (h1 : v1 = mopCell K R E V (k * 4 + 1)) (h2 : v2 = mopCell K R E V (k * 4 + 2)) (h3 : v3 = mopCell K R E V (k * 4 + 3)) :
    BRel w (((((((wm.setCell ⟨bm, q, none⟩ u).setCell ⟨w.heap.size, k * 4, none⟩ v0).setCell ⟨w.heap.size, k * 4 + 1, none⟩ v1).setCell ⟨w.heap.size, k * 4 + 2, none⟩ v2).setCell ⟨w.heap.size, k * 4 + 3, none⟩ v3).setCell
      ⟨w.heap.size + 1, k, none⟩ (.int .i64 (lastOf K (K k % 4) k))).setCell ⟨w.heap.size + 1 + 1, (K k % 4).toNat, none⟩ (.int .i64 k)) n (k + 1) K R E V := by
  have hsz := hrel.below.size
  have r1 : wm.rowIs w.heap.size 64 (n * 4) _ := hrel.mops.of_block (hb2.block _ hrel.mops.lt)
  have r2 : wm.rowIs (w.heap.size + 1) 3 n _ := hrel.prev.of_block (hb2.block _ hrel.prev.lt)
  have r3 : wm.rowIs (w.heap.size + 1 + 1) 78 4 _ := hrel.last.of_block (hb2.block _ hrel.last.lt)
  refine ⟨?_, ?_, ?_, ?_⟩
  · have t1 := r1.setOther (a := ⟨bm, q, none⟩) (by simp; omega) u
    have t2 := ((((t1.set (k * 4) v0).set (k * 4 + 1) v1).set (k * 4 + 2) v2).set (k * 4 + 3) v3)
    have t3 := (t2.setOther (a := ⟨w.heap.size + 1, k, none⟩) (by simp) (.int .i64 (lastOf K (K k % 4) k))).setOther (a := ⟨w.heap.size + 1 + 1, (K k % 4).toNat, none⟩) (by simp; omega) (.int .i64 k)
    refine t3.congr fun x hx => ?_
    by_cases e3 : x = k * 4 + 3
    · subst e3; simp [h3, show k * 4 + 3 < (k + 1) * 4 by omega]
    · by_cases e2 : x = k * 4 + 2
      · subst e2; simp [h2, show k * 4 + 2 < (k + 1) * 4 by omega]
      · by_cases e1 : x = k * 4 + 1
        · subst e1; simp [h1, show k * 4 + 1 < (k + 1) * 4 by omega]
        · by_cases e0 : x = k * 4
          · subst e0; simp [h0, show k * 4 < (k + 1) * 4 by omega]
          · by_cases e : x < k * 4
            · simp [e0, e1, e2, e3, e, show x < (k + 1) * 4 by omega]
            · simp [e0, e1, e2, e3, e, show ¬ x < (k + 1) * 4 by omega]
  · have t1 := r2.setOther (a := ⟨bm, q, none⟩) (by simp; omega) u
    have t2 := ((((t1.setOther (a := ⟨w.heap.size, k * 4, none⟩) (by simp) v0).setOther (a := ⟨w.heap.size, k * 4 + 1, none⟩) (by simp) v1).setOther (a := ⟨w.heap.size, k * 4 + 2, none⟩) (by simp) v2).setOther (a := ⟨w.heap.size, k * 4 + 3, none⟩) (by simp) v3)
    have t3 := (t2.set k (.int .i64 (lastOf K (K k % 4) k))).setOther (a := ⟨w.heap.size + 1 + 1, (K k % 4).toNat, none⟩) (by simp) (.int .i64 k)
    exact t3.congr fun x hx => step_if x k (fun x => .int .i64 (lastOf K (K x % 4) x)) _
  · have t1 := r3.setOther (a := ⟨bm, q, none⟩) (by simp; omega) u
    have t2 := ((((t1.setOther (a := ⟨w.heap.size, k * 4, none⟩) (by simp; omega) v0).setOther (a := ⟨w.heap.size, k * 4 + 1, none⟩) (by simp; omega) v1).setOther (a := ⟨w.heap.size, k * 4 + 2, none⟩) (by simp; omega) v2).setOther (a := ⟨w.heap.size, k * 4 + 3, none⟩) (by simp; omega) v3)
    have t3 := (t2.setOther (a := ⟨w.heap.size + 1, k, none⟩) (by simp) (.int .i64 (lastOf K (K k % 4) k))).set (K k % 4).toNat (.int .i64 k)
    refine t3.congr fun x hx => ?_
    by_cases e : x = (K k % 4).toNat
    · have e' : K k % 4 = (x : Int) := by omega
      simp [e, lastOf]
      omega
    · have e' : ¬ K k % 4 = (x : Int) := by omega
      simp [e, lastOf, e']
  · have b0 : Below w.heap.size w wm := hrel.below.trans (hb2.mono hsz)
    exact ((((((b0.setCell (p := ⟨bm, q, none⟩) (by simp; omega) u).setCell (p := ⟨w.heap.size, k * 4, none⟩) (by simp) v0).setCell (p := ⟨w.heap.size, k * 4 + 1, none⟩) (by simp) v1).setCell (p := ⟨w.heap.size, k * 4 + 2, none⟩) (by simp) v2).setCell (p := ⟨w.heap.size, k * 4 + 3, none⟩) (by simp) v3).setCell (p := ⟨w.heap.size + 1, k, none⟩) (by simp) _).setCell (p := ⟨w.heap.size + 1 + 1, (K k % 4).toNat, none⟩) (by simp; omega) _

/-- What the script's building returns: the micro-operations and the links, in new blocks. -/
def BuildPost (w : World) (n : Nat) (K : Nat → Int) (R : Nat → Bool) (E : Nat → Int) (V : Nat → Value) (e : Ending) (w' : World) : Prop :=
  e = .returned (.tuple #[.slice (some ⟨w.heap.size, 0, none⟩) n n, .slice (some ⟨w.heap.size + 1, 0, none⟩) n n]) ∧ BRel w w' n n K R E V

set_option maxHeartbeats 1000000 in
theorem build27 (a0 a1 a2 a3 : Option Addr) (n0 n1 n2 n3 c0 c1 c2 c3 : Nat) (K : Nat → Int) (R : Nat → Bool) (E : Nat → Int) (V : Nat → Value) (L : Nat → Nat) (Z : Nat → Nat → Int) (n : Nat) (w : World)
    (S : Script w a0 a1 a2 a3 n0 n1 n2 n3 K R E V L Z) (h0 : n ≤ n0) (h1 : n ≤ n1) (h2 : n ≤ n2) (h3 : n ≤ n3) (hn : n ≤ 65536) :
    Calls Try.prog 27 #[.slice a0 n0 c0, .slice a1 n1 c1, .slice a2 n2 c2, .slice a3 n3 c3, .int .i64 (n : Int)] w (BuildPost w n K R E V) := by
  have hm1 := make43 n (by omega)
  have hm2 := run_make_row' (P := Try.prog) 34 3 (.int .i64 0) _ Try.underlying34 Try.info3 rfl .i64 .i64 n (by omega) (by omega)
  go_enter Try.func27, Try.ntmps27
  go_wp2
  clear hm1 hm2
  go_loopw [15] (fun i wr => ∃ k : Nat, k ≤ n ∧ i = .int .i64 k ∧ BRel w wr n k K R E V) (fun i _ => n - (intOf i).toNat)
  case atStart => exact ⟨0, Nat.zero_le _, rfl, brel_start w n K R E V⟩
  case round =>
    obtain ⟨k, hk, rfl, hrel⟩ := hrel
    by_cases hlt : k < n
    · have hbel := hrel.below
      obtain ⟨b0, o0, rfl, ck0⟩ := S.keys.at (k := k) (by omega)
      obtain ⟨b1, o1, rfl, cr0⟩ := S.reads.at (k := k) (by omega)
      obtain ⟨b2, o2, rfl, ce0⟩ := S.elems.at (k := k) (by omega)
      obtain ⟨b3, o3, rfl, cl0⟩ := S.lists.at (k := k) (by omega)
      have ck := cell_later hbel ck0
      have cr := cell_later hbel cr0
      have hKk := S.kb k
      have l0 : (k : Int) < (n0 : Int) := by omega
      have l1 : (k : Int) < (n1 : Int) := by omega
      go_wp2
      have la := laid_a wr (R k) (keyStr (K k)) (.cells #[.int .u8 107, .int .u8 (48 + K k % 4)] 5)
      have lb := laid_b wr (R k) (keyStr (K k)) (.cells #[.int .u8 107, .int .u8 (48 + K k % 4)] 5)
      go_region_held3 (fun w' => w'.cell? ⟨b0, o0 + k, none⟩ = some (.int .u8 (K k)) ∧ w'.cell? ⟨b1, o1 + k, none⟩ = some (.bool (R k))) (go_keep) (first | (go_at_call 35; refine (keyName35 _ (by omega) (by omega) _).mono ?_; rintro e w' ⟨rfl, rfl⟩))
      all_goals
        obtain ⟨w2, hW⟩ : ∃ w2, w2 = ((wr.alloc (.cells #[.bool (R k), .string (keyStr (K k)), .int .i64 0, .slice none 0 0] 64)).alloc (.cells #[.int .u8 107, .int .u8 (48 + K k % 4)] 5)).drew := ⟨_, rfl⟩
        obtain ⟨w3, hV⟩ : ∃ w3, w3 = ((wr.alloc (.cells #[.int .u8 107, .int .u8 (48 + K k % 4)] 5)).alloc (.cells #[.bool (R k), .string (keyStr (K k)), .int .i64 0, .slice none 0 0] 64)).drew := ⟨_, rfl⟩
        rw [← hW] at la
        rw [← hV] at lb
        first
          | rw [← hW]
            obtain ⟨bm, hbm⟩ : ∃ bm, bm = wr.heap.size := ⟨_, rfl⟩
            rw [← hbm] at la ⊢
            obtain ⟨wm, hwm⟩ : ∃ wm, wm = w2 := ⟨_, rfl⟩
            have hl : Laid wr wm bm (R k) (keyStr (K k)) := by rw [hwm]; exact la
            rw [← hwm]
          | rw [← hV]
            obtain ⟨bm, hbm⟩ : ∃ bm, bm = wr.heap.size + 1 := ⟨_, rfl⟩
            rw [← hbm] at lb ⊢
            obtain ⟨wm, hwm⟩ : ∃ wm, wm = w3 := ⟨_, rfl⟩
            have hl : Laid wr wm bm (R k) (keyStr (K k)) := by rw [hwm]; exact lb
            rw [← hwm]
        clear hwm hbm la lb hW hV
        have hb2 := hl.below
        have hsz := hrel.last.lt
        have hge := hl.ge
        have hlt2 : w.heap.size + 1 + 1 < bm := by omega
        have r1 : wm.rowIs w.heap.size 64 (n * 4) _ := hrel.mops.of_block (hb2.block _ hrel.mops.lt)
        have r2 : wm.rowIs (w.heap.size + 1) 3 n _ := hrel.prev.of_block (hb2.block _ hrel.prev.lt)
        have r3 : wm.rowIs (w.heap.size + 1 + 1) 78 4 _ := hrel.last.of_block (hb2.block _ hrel.last.lt)
        have m0 := r1.cell (i := k * 4) (by omega)
        have m1 := r1.cell (i := k * 4 + 1) (by omega)
        have m2 := r1.cell (i := k * 4 + 2) (by omega)
        have m3 := r1.cell (i := k * 4 + 3) (by omega)
        have g0 := r1.frozen (k * 4)
        have g1 := r1.frozen (k * 4 + 1)
        have g2 := r1.frozen (k * 4 + 2)
        have g3 := r1.frozen (k * 4 + 3)
        have p0 := r2.cell hlt
        have p1 := r2.frozen k
        have q0 := r3.cell (i := (K k % 4).toNat) (by omega)
        have q1 := r3.frozen (K k % 4).toNat
        rw [Int.toNat_of_nonneg (by omega)] at q0
        rw [if_neg (by omega)] at m0 m1 m2 m3 p0
        have cr2 := cell_later (hbel.trans (hb2.mono hbel.size)) cr0
        have ce2 := cell_later (hbel.trans (hb2.mono hbel.size)) ce0
        have cl2 := cell_later (hbel.trans (hb2.mono hbel.size)) cl0
        obtain ⟨lb0, lb1, lb2, lb3, lb4, lf2, lf3, _⟩ := hl
        clear hbel hb2 ck0 cr0 ce0 cl0 ck cr r1 r2 r3
        have hst := fun u v0 v1 v2 v3 => brel_step (bm := bm) hrel lb0 hlt2 hlt hKk.1 2 u v0 v1 v2 v3
        have hst' := fun u v0 v1 v2 v3 => brel_step (bm := bm) hrel lb0 hlt2 hlt hKk.1 3 u v0 v1 v2 v3
        obtain ⟨ak, cck, hvk, _, _⟩ := S.inner k (by omega)
        rw [hvk] at cl2
        have HV : Hid (V k = .slice ak (L k) cck) := hvk
        clear hrel lb0 hvk
        cases hR : R k
        · rw [hR] at cr2 lb1
          have HR : Hid (R k = false) := hR
          clear hR
          have HS := hid hst
          clear hst hst'
          go_wp2
          go_roundw
          case rel =>
            go_light
            have hR := HR.out
            refine ⟨k + 1, by omega, by go_num, HS.out _ _ _ _ _ ?_ ?_ ?_ ?_⟩
            · simp [mopCell, hR]
            · simp [mopCell, Nat.add_mod, Nat.add_div]
            · simp [mopCell, Nat.add_mod, Nat.add_div, hR]
            · simp [mopCell, Nat.add_mod, Nat.add_div, hR]
          case measure => simp [intOf]; omega
        · rw [hR] at cr2 lb1
          have HR : Hid (R k = true) := hR
          clear hR
          have HS := hid hst'
          clear hst hst'
          go_wp2
          go_roundw
          case rel =>
            go_light
            have hR := HR.out
            refine ⟨k + 1, by omega, by go_num, HS.out _ _ _ _ _ ?_ ?_ ?_ ?_⟩
            · simp [mopCell, hR]
            · simp [mopCell, Nat.add_mod, Nat.add_div]
            · simp [mopCell, Nat.add_mod, Nat.add_div, hR]
            · simp [mopCell, Nat.add_mod, Nat.add_div, hR, HV.out]
          case measure => simp [intOf]; omega
    · obtain rfl : k = n := by omega
      go_wp2
      go_ret2
      exact ⟨rfl, hrel⟩
end Go.Proofs.Qxb6600044a
