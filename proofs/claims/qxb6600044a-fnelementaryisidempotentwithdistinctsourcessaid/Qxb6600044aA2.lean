import Derived.Test.Qxb6600044aA1
import Derived.Deep.OwnRows
namespace Go.Proofs.Qxb6600044a
open Go.RowKit
set_option linter.unusedVariables false

theorem Arr.later {w w' : World} {a : Option Addr} {n : Nat} {f : Nat → Value} (h : Arr w a n f) (hb : Below w.heap.size w w') : Arr w' a n f := by
  refine ⟨h.1, ?_⟩
  rcases h.2 with h0 | ⟨b, off, rfl, hc⟩
  · exact .inl h0
  · exact .inr ⟨b, off, rfl, fun i hi => cell_later hb (hc i hi)⟩

theorem Arr.ofRow {w : World} {b t n : Nat} {f : Nat → Value} (h : w.rowIs b t n f) (hn : n ≤ 9223372036854775807) : Arr w (some ⟨b, 0, none⟩) n f :=
  ⟨hn, .inr ⟨b, 0, rfl, fun i hi => by rw [Nat.zero_add]; exact h.cell hi⟩⟩

theorem Arr.congr {w : World} {a : Option Addr} {n : Nat} {f g : Nat → Value} (h : Arr w a n f) (e : ∀ i, i < n → f i = g i) : Arr w a n g := by
  refine ⟨h.1, ?_⟩
  rcases h.2 with h0 | ⟨b, off, rfl, hc⟩
  · exact .inl h0
  · exact .inr ⟨b, off, rfl, fun i hi => by rw [hc i hi, e i hi]⟩

theorem Arr.nil {w : World} {n : Nat} {f : Nat → Value} (h : Arr w none n f) : n = 0 := by
  rcases h.2 with h0 | ⟨b, off, h', _⟩
  · exact h0
  · cases h'

/-- The address, where there is one, lies in a block from B on. -/
def AddrFrom (B : Nat) (a : Option Addr) : Prop := ∀ p, a = some p → B ≤ p.block
theorem AddrFrom.none (B : Nat) : AddrFrom B none := fun p h => by cases h
theorem AddrFrom.some {B : Nat} {p : Addr} (h : B ≤ p.block) : AddrFrom B (some p) := fun q hq => by cases hq; exact h
theorem AddrFrom.mono {B B' : Nat} {a : Option Addr} (h : AddrFrom B a) (hb : B' ≤ B) : AddrFrom B' a := fun p hp => Nat.le_trans hb (h p hp)

/-- A store into a block below the slice's own leaves the slice's cells alone. -/
theorem Arr.setCell {w : World} {a : Option Addr} {n : Nat} {f : Nat → Value} {p : Addr} (h : Arr w a n f) (ha : AddrFrom (p.block + 1) a) (u : Value) : Arr (w.setCell p u) a n f := by
  refine ⟨h.1, ?_⟩
  rcases h.2 with h0 | ⟨b, off, rfl, hc⟩
  · exact .inl h0
  · refine .inr ⟨b, off, rfl, fun i hi => ?_⟩
    have hb := ha _ rfl
    exact (World.cell?_of_block (a := ⟨b, off + i, .none⟩) (Below.heap_setCell w p u b (by simp only at hb; omega))).trans (hc i hi)

/-- What a clone returns: a slice in new memory with the same cells. -/
def RetArr (w : World) (n : Nat) (f : Nat → Value) (e : Ending) (w' : World) : Prop :=
  ∃ a' c', e = .returned (.slice a' n c') ∧ Arr w' a' n f ∧ AddrFrom w.heap.size a' ∧ Below w.heap.size w w'

/-- A slice value that shows the integers z 0 .. z (n-1). -/
def Ints (B : Nat) (w : World) (v : Value) (n : Nat) (z : Nat → Int) : Prop :=
  ∃ a c, v = .slice a n c ∧ Arr w a n (fun t => .int .i64 (z t)) ∧ AddrFrom B a

theorem Ints.later {B : Nat} {w w' : World} {v : Value} {n : Nat} {z : Nat → Int} (h : Ints B w v n z) (hb : Below w.heap.size w w') : Ints B w' v n z := by
  obtain ⟨a, c, rfl, h1, h2⟩ := h
  exact ⟨a, c, rfl, h1.later hb, h2⟩

theorem Ints.setCell {B : Nat} {w : World} {v : Value} {n : Nat} {z : Nat → Int} {p : Addr} (h : Ints B w v n z) (hp : p.block < B) (u : Value) : Ints B (w.setCell p u) v n z := by
  obtain ⟨a, c, rfl, h1, h2⟩ := h
  exact ⟨a, c, rfl, h1.setCell (h2.mono hp) u, h2⟩

theorem Ints.mono {B B' : Nat} {w : World} {v : Value} {n : Nat} {z : Nat → Int} (h : Ints B w v n z) (hb : B' ≤ B) : Ints B' w v n z := by
  obtain ⟨a, c, rfl, h1, h2⟩ := h
  exact ⟨a, c, rfl, h1, h2.mono hb⟩

theorem step_if (i k : Nat) (f : Nat → Value) (d : Value) : (if i = k then f k else if i < k then f i else d) = if i < k + 1 then f i else d := by
  by_cases e : i = k
  · subst e; simp
  · by_cases e2 : i < k
    · rw [if_neg e, if_pos e2, if_pos (by omega)]
    · rw [if_neg e, if_neg e2, if_neg (by omega)]

theorem Try.info2 : (Try.prog.info? 2).map (fun i => (i.zero, i.size, i.bytes)) = some (some (.int .i64 0), 1, 8) := by kernel_rfl
theorem Try.info3 : (Try.prog.info? 3).map (fun i => (i.zero, i.size, i.bytes)) = some (some (.int .i64 0), 1, 8) := by kernel_rfl
theorem Try.info4 : (Try.prog.info? 4).map (fun i => (i.zero, i.size, i.bytes)) = some (some (.bool false), 1, 1) := by kernel_rfl
theorem Try.info5 : (Try.prog.info? 5).map (fun i => (i.zero, i.size, i.bytes)) = some (some (.int .u8 0), 1, 1) := by kernel_rfl
theorem Try.info32 : (Try.prog.info? 32).map (fun i => (i.zero, i.size, i.bytes)) = some (some (.slice none 0 0), 1, 24) := by kernel_rfl

set_option maxHeartbeats 400000 in
theorem clone24 (a : Option Addr) (n c : Nat) (z : Nat → Int) (w : World) (h : Arr w a n fun i => .int .i64 (z i)) (hn : n ≤ 1048576) :
    Calls Try.prog 24 #[.slice a n c] w (RetArr w n fun i => .int .i64 (z i)) := by
  have q : ∀ (w : World) (a : Option Addr) (n c n' c' : Nat), (binOp .eql 32 (.slice a n c) (.slice none n' c')).run Try.prog w = .ok (.bool a.isNone) w := fun w a n c n' c' => Lib.run_eql_slice_nil w _ _ a n c n' c' Try.underlying32
  rcases a with _ | p
  · obtain rfl := h.nil
    go_enter Try.func24, Try.ntmps24
    go_wp2
    go_ret
    exact ⟨_, _, rfl, ⟨by omega, .inl rfl⟩, AddrFrom.none _, Below.refl _ _⟩
  · have hmk := run_make_row' (P := Try.prog) 32 2 (.int .i64 0) _ Try.underlying32 Try.info2 rfl .i64 .i64 n (by omega) (by omega)
    go_enter Try.func24, Try.ntmps24
    go_wp2
    clear hmk q
    go_loopw [4] (fun i wr => ∃ k : Nat, k ≤ n ∧ i = .int .i64 k ∧ wr.rowIs w.heap.size 2 n (fun j => if j < k then .int .i64 (z j) else (.int .i64 0)) ∧ Below w.heap.size w wr) (fun i _ => n - (intOf i).toNat)
    case atStart => exact ⟨0, Nat.zero_le _, rfl, (World.rowIs_made w _ n 2).congr (fun i hi => by simp), (Below.refl _ _).alloc (Nat.le_refl _) _⟩
    case round =>
      obtain ⟨k, hk, rfl, hrow, hbel⟩ := hrel
      by_cases hlt : k < n
      · obtain ⟨b, off, hp, hcell⟩ := h.at hlt
        simp only [Option.some.injEq] at hp
        subst hp
        have hcw := cell_later hbel hcell
        have hfr := hrow.frozen k
        have hold := hrow.cell hlt
        have hnew := hrow.set k (.int .i64 (z k))
        have hbel' := hbel.setCell (p := ⟨w.heap.size, k, none⟩) (Nat.le_refl _) (.int .i64 (z k))
        clear hcell hrow
        go_wp2
        go_roundw
        case rel => exact ⟨k + 1, by omega, by go_num, hnew.congr (fun i hi => step_if i k (fun j => .int .i64 (z j)) _), hbel'⟩
        case measure => simp [intOf]; omega
      · go_wp2
        go_ret
        have : k = n := by omega
        subst this
        refine ⟨_, _, rfl, Arr.ofRow (hrow.congr fun i hi => by simp [hi]) (by omega), AddrFrom.some (Nat.le_refl _), hbel⟩

set_option maxHeartbeats 400000 in
theorem clone26 (a : Option Addr) (n c : Nat) (z : Nat → Int) (w : World) (h : Arr w a n fun i => .int .i64 (z i)) (hn : n ≤ 1048576) :
    Calls Try.prog 26 #[.slice a n c] w (RetArr w n fun i => .int .i64 (z i)) := by
  have q : ∀ (w : World) (a : Option Addr) (n c n' c' : Nat), (binOp .eql 34 (.slice a n c) (.slice none n' c')).run Try.prog w = .ok (.bool a.isNone) w := fun w a n c n' c' => Lib.run_eql_slice_nil w _ _ a n c n' c' Try.underlying34
  rcases a with _ | p
  · obtain rfl := h.nil
    go_enter Try.func26, Try.ntmps26
    go_wp2
    go_ret
    exact ⟨_, _, rfl, ⟨by omega, .inl rfl⟩, AddrFrom.none _, Below.refl _ _⟩
  · have hmk := run_make_row' (P := Try.prog) 34 3 (.int .i64 0) _ Try.underlying34 Try.info3 rfl .i64 .i64 n (by omega) (by omega)
    go_enter Try.func26, Try.ntmps26
    go_wp2
    clear hmk q
    go_loopw [4] (fun i wr => ∃ k : Nat, k ≤ n ∧ i = .int .i64 k ∧ wr.rowIs w.heap.size 3 n (fun j => if j < k then .int .i64 (z j) else (.int .i64 0)) ∧ Below w.heap.size w wr) (fun i _ => n - (intOf i).toNat)
    case atStart => exact ⟨0, Nat.zero_le _, rfl, (World.rowIs_made w _ n 3).congr (fun i hi => by simp), (Below.refl _ _).alloc (Nat.le_refl _) _⟩
    case round =>
      obtain ⟨k, hk, rfl, hrow, hbel⟩ := hrel
      by_cases hlt : k < n
      · obtain ⟨b, off, hp, hcell⟩ := h.at hlt
        simp only [Option.some.injEq] at hp
        subst hp
        have hcw := cell_later hbel hcell
        have hfr := hrow.frozen k
        have hold := hrow.cell hlt
        have hnew := hrow.set k (.int .i64 (z k))
        have hbel' := hbel.setCell (p := ⟨w.heap.size, k, none⟩) (Nat.le_refl _) (.int .i64 (z k))
        clear hcell hrow
        go_wp2
        go_roundw
        case rel => exact ⟨k + 1, by omega, by go_num, hnew.congr (fun i hi => step_if i k (fun j => .int .i64 (z j)) _), hbel'⟩
        case measure => simp [intOf]; omega
      · go_wp2
        go_ret
        have : k = n := by omega
        subst this
        refine ⟨_, _, rfl, Arr.ofRow (hrow.congr fun i hi => by simp [hi]) (by omega), AddrFrom.some (Nat.le_refl _), hbel⟩

set_option maxHeartbeats 400000 in
theorem clone22 (a : Option Addr) (n c : Nat) (z : Nat → Int) (w : World) (h : Arr w a n fun i => .int .u8 (z i)) (hn : n ≤ 1048576) :
    Calls Try.prog 22 #[.slice a n c] w (RetArr w n fun i => .int .u8 (z i)) := by
  have q : ∀ (w : World) (a : Option Addr) (n c n' c' : Nat), (binOp .eql 30 (.slice a n c) (.slice none n' c')).run Try.prog w = .ok (.bool a.isNone) w := fun w a n c n' c' => Lib.run_eql_slice_nil w _ _ a n c n' c' Try.underlying30
  rcases a with _ | p
  · obtain rfl := h.nil
    go_enter Try.func22, Try.ntmps22
    go_wp2
    go_ret
    exact ⟨_, _, rfl, ⟨by omega, .inl rfl⟩, AddrFrom.none _, Below.refl _ _⟩
  · have hmk := run_make_row' (P := Try.prog) 30 5 (.int .u8 0) _ Try.underlying30 Try.info5 rfl .i64 .i64 n (by omega) (by omega)
    go_enter Try.func22, Try.ntmps22
    go_wp2
    clear hmk q
    go_loopw [4] (fun i wr => ∃ k : Nat, k ≤ n ∧ i = .int .i64 k ∧ wr.rowIs w.heap.size 5 n (fun j => if j < k then .int .u8 (z j) else (.int .u8 0)) ∧ Below w.heap.size w wr) (fun i _ => n - (intOf i).toNat)
    case atStart => exact ⟨0, Nat.zero_le _, rfl, (World.rowIs_made w _ n 5).congr (fun i hi => by simp), (Below.refl _ _).alloc (Nat.le_refl _) _⟩
    case round =>
      obtain ⟨k, hk, rfl, hrow, hbel⟩ := hrel
      by_cases hlt : k < n
      · obtain ⟨b, off, hp, hcell⟩ := h.at hlt
        simp only [Option.some.injEq] at hp
        subst hp
        have hcw := cell_later hbel hcell
        have hfr := hrow.frozen k
        have hold := hrow.cell hlt
        have hnew := hrow.set k (.int .u8 (z k))
        have hbel' := hbel.setCell (p := ⟨w.heap.size, k, none⟩) (Nat.le_refl _) (.int .u8 (z k))
        clear hcell hrow
        go_wp2
        go_roundw
        case rel => exact ⟨k + 1, by omega, by go_num, hnew.congr (fun i hi => step_if i k (fun j => .int .u8 (z j)) _), hbel'⟩
        case measure => simp [intOf]; omega
      · go_wp2
        go_ret
        have : k = n := by omega
        subst this
        refine ⟨_, _, rfl, Arr.ofRow (hrow.congr fun i hi => by simp [hi]) (by omega), AddrFrom.some (Nat.le_refl _), hbel⟩

set_option maxHeartbeats 400000 in
theorem clone23 (a : Option Addr) (n c : Nat) (z : Nat → Bool) (w : World) (h : Arr w a n fun i => .bool (z i)) (hn : n ≤ 1048576) :
    Calls Try.prog 23 #[.slice a n c] w (RetArr w n fun i => .bool (z i)) := by
  have q : ∀ (w : World) (a : Option Addr) (n c n' c' : Nat), (binOp .eql 31 (.slice a n c) (.slice none n' c')).run Try.prog w = .ok (.bool a.isNone) w := fun w a n c n' c' => Lib.run_eql_slice_nil w _ _ a n c n' c' Try.underlying31
  rcases a with _ | p
  · obtain rfl := h.nil
    go_enter Try.func23, Try.ntmps23
    go_wp2
    go_ret
    exact ⟨_, _, rfl, ⟨by omega, .inl rfl⟩, AddrFrom.none _, Below.refl _ _⟩
  · have hmk := run_make_row' (P := Try.prog) 31 4 (.bool false) _ Try.underlying31 Try.info4 rfl .i64 .i64 n (by omega) (by omega)
    go_enter Try.func23, Try.ntmps23
    go_wp2
    clear hmk q
    go_loopw [4] (fun i wr => ∃ k : Nat, k ≤ n ∧ i = .int .i64 k ∧ wr.rowIs w.heap.size 4 n (fun j => if j < k then .bool (z j) else (.bool false)) ∧ Below w.heap.size w wr) (fun i _ => n - (intOf i).toNat)
    case atStart => exact ⟨0, Nat.zero_le _, rfl, (World.rowIs_made w _ n 4).congr (fun i hi => by simp), (Below.refl _ _).alloc (Nat.le_refl _) _⟩
    case round =>
      obtain ⟨k, hk, rfl, hrow, hbel⟩ := hrel
      by_cases hlt : k < n
      · obtain ⟨b, off, hp, hcell⟩ := h.at hlt
        simp only [Option.some.injEq] at hp
        subst hp
        have hcw := cell_later hbel hcell
        have hfr := hrow.frozen k
        have hold := hrow.cell hlt
        have hnew := hrow.set k (.bool (z k))
        have hbel' := hbel.setCell (p := ⟨w.heap.size, k, none⟩) (Nat.le_refl _) (.bool (z k))
        clear hcell hrow
        go_wp2
        go_roundw
        case rel => exact ⟨k + 1, by omega, by go_num, hnew.congr (fun i hi => step_if i k (fun j => .bool (z j)) _), hbel'⟩
        case measure => simp [intOf]; omega
      · go_wp2
        go_ret
        have : k = n := by omega
        subst this
        refine ⟨_, _, rfl, Arr.ofRow (hrow.congr fun i hi => by simp [hi]) (by omega), AddrFrom.some (Nat.le_refl _), hbel⟩

/-- The slice of slices: its cells hold slices that show L i integers Z i. -/
def Lists (w : World) (a : Option Addr) (n : Nat) (L : Nat → Nat) (Z : Nat → Nat → Int) : Prop :=
  ∃ V : Nat → Value, Arr w a n V ∧ ∀ i, i < n → Ints 0 w (V i) (L i) (Z i)

def RetLists (w : World) (n : Nat) (L : Nat → Nat) (Z : Nat → Nat → Int) (e : Ending) (w' : World) : Prop :=
  ∃ a' c', e = .returned (.slice a' n c') ∧ Lists w' a' n L Z ∧ AddrFrom w.heap.size a' ∧ Below w.heap.size w w'

theorem lists_step {w wr w1 : World} {n k : Nat} {V : Nat → Value} {L : Nat → Nat} {Z : Nat → Nat → Int} {a' : Option Addr} {c' : Nat}
    (hk : k < n) (hrow : wr.rowIs w.heap.size 32 n (fun j => if j < k then V j else .slice none 0 0)) (hin : ∀ j, j < k → Ints (w.heap.size + 1) wr (V j) (L j) (Z j))
    (h1 : Arr w1 a' (L k) fun t => .int .i64 (Z k t)) (h2 : AddrFrom wr.heap.size a') (h3 : Below wr.heap.size wr w1) :
    w1.cell? ⟨w.heap.size, k, none⟩ = some (.slice none 0 0) ∧ w1.frozen? ⟨w.heap.size, k, none⟩ = false ∧
    ∃ V' : Nat → Value, (w1.setCell ⟨w.heap.size, k, none⟩ (.slice a' (L k) c')).rowIs w.heap.size 32 n (fun j => if j < k + 1 then V' j else .slice none 0 0) ∧ ∀ j, j < k + 1 → Ints (w.heap.size + 1) (w1.setCell ⟨w.heap.size, k, none⟩ (.slice a' (L k) c')) (V' j) (L j) (Z j) := by
  have hr1 : w1.rowIs w.heap.size 32 n (fun j => if j < k then V j else .slice none 0 0) := hrow.of_block (h3.block _ hrow.lt)
  refine ⟨by simpa using hr1.cell hk, hr1.frozen k, fun j => if j = k then .slice a' (L k) c' else V j, ?_, ?_⟩
  · refine (hr1.set k (.slice a' (L k) c')).congr fun j hj => ?_
    by_cases e : j = k
    · subst e; simp
    · by_cases e2 : j < k
      · have e3 : j < k + 1 := by omega
        simp [e, e2, e3]
      · have e3 : ¬ j < k + 1 := by omega
        simp [e, e2, e3]
  · intro j hj
    by_cases e : j = k
    · subst e
      simp only [if_true]
      exact Ints.setCell (p := ⟨w.heap.size, j, .none⟩) ⟨a', c', rfl, h1, h2.mono hrow.lt⟩ (by simp) _
    · simp only [if_neg e]
      exact ((hin j (by omega)).later h3).setCell (by simp) _

set_option maxHeartbeats 400000 in
theorem clone25 (a : Option Addr) (n c : Nat) (L : Nat → Nat) (Z : Nat → Nat → Int) (w : World) (h : Lists w a n L Z) (hn : n ≤ 1048576) (hL : ∀ i, i < n → L i ≤ 1048576) :
    Calls Try.prog 25 #[.slice a n c] w (RetLists w n L Z) := by
  have q : ∀ (w : World) (a : Option Addr) (n c n' c' : Nat), (binOp .eql 33 (.slice a n c) (.slice none n' c')).run Try.prog w = .ok (.bool a.isNone) w := fun w a n c n' c' => Lib.run_eql_slice_nil w _ _ a n c n' c' Try.underlying33
  obtain ⟨V0, h, hz⟩ := h
  rcases a with _ | p
  · obtain rfl := h.nil
    go_enter Try.func25, Try.ntmps25
    go_wp2
    go_ret
    exact ⟨_, _, rfl, ⟨fun _ => undef, ⟨by omega, .inl rfl⟩, fun i hi => by omega⟩, AddrFrom.none _, Below.refl _ _⟩
  · have hmk := run_make_row' (P := Try.prog) 33 32 (.slice none 0 0) _ Try.underlying33 Try.info32 rfl .i64 .i64 n (by omega) (by omega)
    go_enter Try.func25, Try.ntmps25
    go_wp2
    clear hmk q
    go_loopw [4] (fun i wr => ∃ k : Nat, ∃ V : Nat → Value, k ≤ n ∧ i = .int .i64 k ∧ wr.rowIs w.heap.size 32 n (fun j => if j < k then V j else .slice none 0 0) ∧ (∀ j, j < k → Ints (w.heap.size + 1) wr (V j) (L j) (Z j)) ∧ Below w.heap.size w wr) (fun i _ => n - (intOf i).toNat)
    case atStart => exact ⟨0, fun _ => undef, Nat.zero_le _, rfl, (World.rowIs_made w _ n 32).congr (fun i hi => by simp), fun i hi => by omega, (Below.refl _ _).alloc (Nat.le_refl _) _⟩
    case round =>
      obtain ⟨k, V, hk, rfl, hrow, hin, hbel⟩ := hrel
      by_cases hlt : k < n
      · obtain ⟨b, off, hp, hcell⟩ := h.at hlt
        simp only [Option.some.injEq] at hp
        subst hp
        obtain ⟨ak, ck, hv, hak, _⟩ := (hz k hlt).later hbel
        rw [hv] at hcell
        have hcw := cell_later hbel hcell
        have hlk := hL k hlt
        have H : Hid (wr.rowIs w.heap.size 32 n (fun j => if j < k then V j else .slice none 0 0)) := hrow
        clear hrow hv hcell
        go_wp2_with fail
        refine (clone24 ak (L k) ck (Z k) _ hak hlk).mono ?_
        rintro e w1 ⟨a', c', rfl, h1, h2, h3⟩
        obtain ⟨hc1, hf1, V', hr', hin'⟩ := lists_step (c' := c') hlt H.out hin h1 h2 h3
        have hb1 : Below w.heap.size w (w1.setCell ⟨w.heap.size, k, none⟩ (.slice a' (L k) c')) := (hbel.trans (h3.mono hbel.size)).setCell (Nat.le_refl _) _
        clear hin h1 h2 h3 hak hcw H
        go_wp2
        go_roundw
        case rel => exact ⟨k + 1, V', by omega, by go_num, hr', hin', hb1⟩
        case measure => simp [intOf]; omega
      · go_wp2
        go_ret
        have : k = n := by omega
        subst this
        exact ⟨_, _, rfl, ⟨V, Arr.ofRow (hrow.congr fun i hi => by simp [hi]) (by omega), fun i hi => (hin i hi).mono (Nat.zero_le _)⟩, AddrFrom.some (Nat.le_refl _), hbel⟩

end Go.Proofs.Qxb6600044a
