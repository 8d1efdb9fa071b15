import Derived.Test.Qxb6600159aD2
import Derived.Test.Qxb6600159aP3
namespace Go.Proofs.Qxb6600159a
open Go.RowKit
set_option linter.unusedVariables false

def iF (f : Nat → Int) (p : Nat) : Value := .int .i32 (f p)

/-- The two rows of the sort. -/
structure Two (w wr : World) (s d n : Nat) (f G : Nat → Int) : Prop where
  src : wr.rowIs s 21 n (iF f)
  dst : wr.rowIs d 21 n (iF G)
  ne : s ≠ d
  fs : w.heap.size ≤ s
  fd : w.heap.size ≤ d
  bel : Below w.heap.size w wr
theorem Two.drewN {w wr : World} {s d n : Nat} {f G : Nat → Int} (h : Two w wr s d n f G) (m : Nat) : Two w (wr.drewN m) s d n f G := ⟨h.src, h.dst, h.ne, h.fs, h.fd, belowN h.bel m⟩
theorem Two.put {w wr : World} {s d n k : Nat} {f G : Nat → Int} (h : Two w wr s d n f G) (x : Int) : Two w (wr.setCell ⟨d, k, none⟩ (.int .i32 x)) s d n f (fSet G k x) :=
  ⟨h.src.setOther h.ne _, (h.dst.set k _).congr fun j hj => by by_cases e : j = k <;> simp [iF, fSet, e], h.ne, h.fs, h.fd, h.bel.setCell (p := ⟨d, k, none⟩) h.fd _⟩
theorem Two.swap {w wr : World} {s d n : Nat} {f G : Nat → Int} (h : Two w wr s d n f G) : Two w wr d s n G f := ⟨h.dst, h.src, h.ne.symm, h.fd, h.fs, h.bel⟩

/-- What the sort returns. -/
def SortPost (w : World) (n : Nat) (z : Nat → Int) (e : Ending) (w' : World) : Prop :=
  ∃ b f, e = .returned (.slice (some ⟨b, 0, none⟩) n n) ∧ w'.rowIs b 21 n (iF f) ∧ (∀ p q, p ≤ q → q < n → f p ≤ f q) ∧ SameSet n f z ∧ Below w.heap.size w w'

/-- The outer loop. -/
def WRel (w : World) (n : Nat) (z : Nat → Int) (vs vd vw : Value) (wr : World) : Prop :=
  ∃ (s d W : Nat) (f G : Nat → Int), vs = .slice (some ⟨s, 0, none⟩) n n ∧ vd = .slice (some ⟨d, 0, none⟩) n n ∧ vw = .int .i64 (W : Int) ∧ 0 < W ∧ W ≤ 2097152 ∧ Two w wr s d n f G ∧ Hid (BSorted n W f ∧ SameSet n f z)
/-- The middle loop. -/
def LRel (w : World) (n s d W : Nat) (f : Nat → Int) (vl : Value) (wr : World) : Prop :=
  ∃ (t : Nat) (G : Nat → Int), vl = .int .i64 ((2 * W * t : Nat) : Int) ∧ 2 * W * t ≤ 8388608 ∧ Two w wr s d n f G ∧ Hid (LoInv W f G (min (2 * W * t) n))
/-- The inner loop. -/
def KRel (w : World) (n s d : Nat) (f G0 : Nat → Int) (lo mid hi : Nat) (vi vj vk : Value) (wr : World) : Prop :=
  ∃ (i j k : Nat) (G : Nat → Int), vi = .int .i64 (i : Int) ∧ vj = .int .i64 (j : Int) ∧ vk = .int .i64 (k : Int) ∧ i ≤ mid ∧ j ≤ hi ∧ k ≤ hi ∧ Two w wr s d n f G ∧ Hid (MInv f G G0 lo mid hi i j k)

set_option maxRecDepth 100000 in
set_option maxHeartbeats 2000000 in
theorem sort40 (a : Option Addr) (c n : Nat) (z : Nat → Int) (w : World) (h : Arr w a n (iF z)) (hn : n ≤ 1048576) :
    Calls Try.prog 40 #[.slice a n c] w (SortPost w n z) := by
  have hmk := run_make_row' (P := Try.prog) 26 21 (.int .i32 0) _ Try.underlying26 Try.info21 rfl .i64 .i64 n (by omega) (by omega)
  go_enter Try.func40, Try.ntmps40
  go_wp2
  go_loopw [5] (fun i wr => ∃ k : Nat, k ≤ n ∧ i = .int .i64 k ∧ wr.rowIs w.heap.size 21 n (fun j => if j < k then iF z j else .int .i32 0) ∧ Below w.heap.size w wr) (fun i _ => n - (intOf i).toNat)
  case atStart => exact ⟨0, Nat.zero_le _, rfl, (World.rowIs_made w _ n 21).congr (fun i hi => by simp), (Below.refl _ _).alloc (Nat.le_refl _) _⟩
  case round =>
    obtain ⟨k, hk, rfl, hrow, hbel⟩ := hrel
    by_cases hlt : k < n
    · obtain ⟨b, off, rfl, hcell⟩ := h.at hlt
      have hli : (k : Int) < (n : Int) := by omega
      have hcw := cell_later hbel hcell
      have hfr := hrow.frozen k
      have hold := hrow.cell hlt
      have HR := hid ((hrow.set k (iF z k)).congr (g := fun j => if j < k + 1 then iF z j else .int .i32 0) (fun i hi => step_if i k (iF z) _))
      have HB := hid (hbel.setCell (p := ⟨w.heap.size, k, none⟩) (Nat.le_refl _) (iF z k))
      simp only [Nat.lt_irrefl, if_false] at hold
      unfold iF at hcw HB
      have HR2 := HR
      unfold iF at HR2
      clear hcell hrow hmk HR
      go_wp2
      go_roundw
      case rel => exact ⟨k + 1, by omega, by go_num, HR2.out, HB.out⟩
      case measure => simp [intOf]; omega
    · obtain rfl : k = n := by omega
      have T0 : Hid (Two w (wr.alloc (.cells (madeCells #[.int .i32 0] k) 21)) w.heap.size wr.heap.size k z (fun _ => 0)) := hid
        ⟨(hrow.congr fun i hi => by simp [hi]).alloc _, (World.rowIs_made wr _ k 21).congr (fun i hi => rfl), by have := hrow.lt; omega, Nat.le_refl _, hbel.size, hbel.alloc hbel.size _⟩
      clear hrow hbel h
      go_wp2
      clear hmk
      go_loopw [4, 6, 7, 8, 9, 10, 11, 12, 13] (fun vs vd vw _ _ _ _ _ _ wr => WRel w k z vs vd vw wr) (fun _ _ vw _ _ _ _ _ _ _ => k - (intOf vw).toNat)
      case atStart => exact ⟨_, _, 1, z, _, rfl, rfl, rfl, by omega, by omega, T0.out, hid ⟨BSorted.one _ _, fun x => Iff.rfl⟩⟩
      case round =>
        obtain ⟨s, d, W, f, G, rfl, rfl, rfl, hW, hW2, hT, HF⟩ := hrel
        by_cases hlt : W < k
        · go_wp2
          go_loopw [8, 9, 10, 11, 12, 13] (fun vl _ _ _ _ _ wr => LRel w k s d W f vl wr) (fun vl _ _ _ _ _ _ => k - (intOf vl).toNat)
          case atStart => exact ⟨0, G, rfl, by omega, hT, hid (by simpa using LoInv.zero W f G)⟩
          case round =>
            clear hT
            obtain ⟨t, G, rfl, hlo, hT, HL⟩ := hrel
            obtain ⟨lo, hlo1⟩ : ∃ lo, lo = 2 * W * t := ⟨_, rfl⟩
            obtain ⟨m1, hm1⟩ : ∃ m1, m1 = lo + W := ⟨_, rfl⟩
            obtain ⟨h1, hh1⟩ : ∃ h1, h1 = lo + 2 * W := ⟨_, rfl⟩
            rw [← hlo1] at hlo ⊢
            have hloe := hid hlo1
            have hT1e : Hid (h1 = 2 * W * (t + 1)) := hid (by rw [hh1, hlo1, Nat.mul_add, Nat.mul_one])
            have e1 : (lo : Int) + (W : Int) = (m1 : Int) := by omega
            have e2 : (lo : Int) + 2 * (W : Int) = (h1 : Int) := by omega
            have g1 : lo + W = m1 := hm1.symm
            have g2 : lo + 2 * W = h1 := hh1.symm
            have SA := hid (fun (b : Nat) (hb : b ≤ lo + W) (hn : b ≤ k) => HF.out.1.seg (s := 2 * t) (a := lo) (b := b) (by rw [hlo1, ← Nat.mul_assoc, Nat.mul_comm W 2]) hb hn)
            have SB := hid (fun (b : Nat) (hb : b ≤ m1 + W) (hn : b ≤ k) => HF.out.1.seg (s := 2 * t + 1) (a := m1) (b := b) (by rw [hm1, hlo1, Nat.mul_add, ← Nat.mul_assoc, Nat.mul_comm W 2, Nat.mul_one]) hb hn)
            clear hlo1 hm1 hh1
            have G1 := hid g1
            have G2 := hid g2
            by_cases hlk : lo < k
            · by_cases hA : h1 ≤ k
              · have S1 := hid (SA.out m1 (by omega) (by omega))
                have S2 := hid (SB.out h1 (by omega) (by omega))
                have x1 : m1 ≤ k := by omega
                have x2 : lo ≤ m1 := by omega
                have x3 : m1 ≤ h1 := by omega
                have y1 : decide (k < m1) = false := by simp; omega
                have y2 : decide (k < h1) = false := by simp; omega
                clear g1 g2
                have HT := hid hT
                clear hT
                go_wp2
                go_loopw [11, 12, 13] (fun vi vj vk wr => KRel w k s d f G lo m1 h1 vi vj vk wr) (fun _ _ vk _ => h1 - (intOf vk).toNat)
                case atStart => exact ⟨lo, m1, lo, G, rfl, rfl, rfl, by omega, by omega, by omega, HT.out, hid (MInv.start f G (by omega) (by omega))⟩
                case round =>
                  obtain ⟨i, j, q, G1, rfl, rfl, rfl, hi1, hj1, hq1, hT1, HM⟩ := hrel
                  have hkk := HM.out.kk
                  have hmj := HM.out.mj
                  have HT1 := hid hT1
                  by_cases hq : q < h1
                  · have cd := hT1.dst.cell (i := q) (by omega)
                    have fd := hT1.dst.frozen q
                    unfold iF at cd
                    clear hT1 HT
                    by_cases him : i < m1
                    · have ci := HT1.out.src.cell (i := i) (by omega)
                      by_cases hjh : j < h1
                      · have cj := HT1.out.src.cell (i := j) (by omega)
                        have d1 : decide ((i : Int) < (m1 : Int)) = true := by simp; omega
                        have d2 : decide ((h1 : Int) ≤ (j : Int)) = false := by simp; omega
                        have i1 : (i : Int) < (k : Int) := by omega
                        have i2 : (j : Int) < (k : Int) := by omega
                        have i3 : (q : Int) < (k : Int) := by omega
                        by_cases hle : f i ≤ f j
                        · have d3 : decide (f i ≤ f j) = true := by simp [hle]
                          have HC := hid (show h1 ≤ j ∨ f i ≤ f j from .inr hle)
                          unfold iF at cj
                          clear hle
                          have P2 := hid (HT1.out.put (k := q) (f i))
                          have M2 := hid (HM.out.stepI S1.out S2.out (by omega) HC.out)
                          unfold iF at ci
                          go_wp2
                          go_quiet (fail)
                          go_wp2
                          go_roundw
                          case rel => exact ⟨i + 1, j, q + 1, _, by go_num, by go_num, by go_num, by omega, by omega, by omega, P2.out.drewN _, M2⟩
                          case measure => simp [intOf]; omega
                        · have d3 : decide (f i ≤ f j) = false := by simp; omega
                          have HC := hid (show m1 ≤ i ∨ f j < f i from .inr (by omega))
                          unfold iF at ci
                          clear hle
                          have P2 := hid (HT1.out.put (k := q) (f j))
                          have M2 := hid (HM.out.stepJ S1.out S2.out (by omega) HC.out)
                          unfold iF at cj
                          go_wp2
                          go_quiet (fail)
                          go_wp2
                          go_roundw
                          case rel => exact ⟨i, j + 1, q + 1, _, by go_num, by go_num, by go_num, by omega, by omega, by omega, P2.out.drewN _, M2⟩
                          case measure => simp [intOf]; omega
                      · have d1 : decide ((i : Int) < (m1 : Int)) = true := by simp; omega
                        have d2 : decide ((h1 : Int) ≤ (j : Int)) = true := by simp; omega
                        have i1 : (i : Int) < (k : Int) := by omega
                        have i3 : (q : Int) < (k : Int) := by omega
                        have HC := hid (show h1 ≤ j ∨ f i ≤ f j from .inl (by omega))
                        have P2 := hid (HT1.out.put (k := q) (f i))
                        have M2 := hid (HM.out.stepI S1.out S2.out (by omega) HC.out)
                        unfold iF at ci
                        go_wp2
                        go_quiet (fail)
                        go_wp2
                        go_roundw
                        case rel => exact ⟨i + 1, j, q + 1, _, by go_num, by go_num, by go_num, by omega, by omega, by omega, P2.out.drewN _, M2⟩
                        case measure => simp [intOf]; omega
                    · have cj := HT1.out.src.cell (i := j) (by omega)
                      have d1 : decide ((i : Int) < (m1 : Int)) = false := by simp; omega
                      have i2 : (j : Int) < (k : Int) := by omega
                      have i3 : (q : Int) < (k : Int) := by omega
                      have HC := hid (show m1 ≤ i ∨ f j < f i from .inl (by omega))
                      have P2 := hid (HT1.out.put (k := q) (f j))
                      have M2 := hid (HM.out.stepJ S1.out S2.out (by omega) HC.out)
                      unfold iF at cj
                      go_wp2
                      go_quiet (fail)
                      go_wp2
                      go_roundw
                      case rel => exact ⟨i, j + 1, q + 1, _, by go_num, by go_num, by go_num, by omega, by omega, by omega, P2.out.drewN _, M2⟩
                      case measure => simp [intOf]; omega
                  · have e1' : i = m1 := by omega
                    have e2' : j = h1 := by omega
                    have e3' : q = h1 := by omega
                    have HN := hid (show LoInv W f G1 (min (2 * W * (t + 1)) k) by
                      have hmin : min (2 * W * (t + 1)) k = h1 := by rw [← hT1e.out]; omega
                      rw [hmin]
                      have hm2 := HM.out
                      rw [e1', e2', e3', hloe.out] at hm2
                      have hmin0 : min (2 * W * t) k = 2 * W * t := by have := hloe.out; omega
                      have hl2 := HL.out
                      rw [hmin0] at hl2
                      exact hl2.next hW hm2)
                    go_wp2
                    go_roundw
                    case rel => exact ⟨t + 1, G1, by rw [← hT1e.out], by rw [← hT1e.out]; omega, hT1, HN⟩
                    case measure => simp [intOf]; omega
              · by_cases hB : m1 ≤ k
                · have S1 := hid (SA.out m1 (by omega) (by omega))
                  have S2 := hid (SB.out k (by omega) (by omega))
                  have x2 : lo ≤ m1 := by omega
                  have y1 : decide (k < m1) = false := by simp; omega
                  have y2 : decide (k < h1) = true := by simp; omega
                  clear g1 g2
                  have HT := hid hT
                  clear hT
                  go_wp2
                  go_loopw [11, 12, 13] (fun vi vj vk wr => KRel w k s d f G lo m1 k vi vj vk wr) (fun _ _ vk _ => k - (intOf vk).toNat)
                  case atStart => exact ⟨lo, m1, lo, G, rfl, rfl, rfl, by omega, by omega, by omega, HT.out, hid (MInv.start f G (by omega) (by omega))⟩
                  case round =>
                    obtain ⟨i, j, q, G1, rfl, rfl, rfl, hi1, hj1, hq1, hT1, HM⟩ := hrel
                    have hkk := HM.out.kk
                    have hmj := HM.out.mj
                    have HT1 := hid hT1
                    by_cases hq : q < k
                    · have cd := hT1.dst.cell (i := q) (by omega)
                      have fd := hT1.dst.frozen q
                      unfold iF at cd
                      clear hT1 HT
                      by_cases him : i < m1
                      · have ci := HT1.out.src.cell (i := i) (by omega)
                        by_cases hjh : j < k
                        · have cj := HT1.out.src.cell (i := j) (by omega)
                          have d1 : decide ((i : Int) < (m1 : Int)) = true := by simp; omega
                          have d2 : decide ((k : Int) ≤ (j : Int)) = false := by simp; omega
                          have i1 : (i : Int) < (k : Int) := by omega
                          have i2 : (j : Int) < (k : Int) := by omega
                          have i3 : (q : Int) < (k : Int) := by omega
                          by_cases hle : f i ≤ f j
                          · have d3 : decide (f i ≤ f j) = true := by simp [hle]
                            have HC := hid (show k ≤ j ∨ f i ≤ f j from .inr hle)
                            unfold iF at cj
                            clear hle
                            have P2 := hid (HT1.out.put (k := q) (f i))
                            have M2 := hid (HM.out.stepI S1.out S2.out (by omega) HC.out)
                            unfold iF at ci
                            go_wp2
                            go_quiet (fail)
                            go_wp2
                            go_roundw
                            case rel => exact ⟨i + 1, j, q + 1, _, by go_num, by go_num, by go_num, by omega, by omega, by omega, P2.out.drewN _, M2⟩
                            case measure => simp [intOf]; omega
                          · have d3 : decide (f i ≤ f j) = false := by simp; omega
                            have HC := hid (show m1 ≤ i ∨ f j < f i from .inr (by omega))
                            unfold iF at ci
                            clear hle
                            have P2 := hid (HT1.out.put (k := q) (f j))
                            have M2 := hid (HM.out.stepJ S1.out S2.out (by omega) HC.out)
                            unfold iF at cj
                            go_wp2
                            go_quiet (fail)
                            go_wp2
                            go_roundw
                            case rel => exact ⟨i, j + 1, q + 1, _, by go_num, by go_num, by go_num, by omega, by omega, by omega, P2.out.drewN _, M2⟩
                            case measure => simp [intOf]; omega
                        · have d1 : decide ((i : Int) < (m1 : Int)) = true := by simp; omega
                          have d2 : decide ((k : Int) ≤ (j : Int)) = true := by simp; omega
                          have i1 : (i : Int) < (k : Int) := by omega
                          have i3 : (q : Int) < (k : Int) := by omega
                          have HC := hid (show k ≤ j ∨ f i ≤ f j from .inl (by omega))
                          have P2 := hid (HT1.out.put (k := q) (f i))
                          have M2 := hid (HM.out.stepI S1.out S2.out (by omega) HC.out)
                          unfold iF at ci
                          go_wp2
                          go_quiet (fail)
                          go_wp2
                          go_roundw
                          case rel => exact ⟨i + 1, j, q + 1, _, by go_num, by go_num, by go_num, by omega, by omega, by omega, P2.out.drewN _, M2⟩
                          case measure => simp [intOf]; omega
                      · have cj := HT1.out.src.cell (i := j) (by omega)
                        have d1 : decide ((i : Int) < (m1 : Int)) = false := by simp; omega
                        have i2 : (j : Int) < (k : Int) := by omega
                        have i3 : (q : Int) < (k : Int) := by omega
                        have HC := hid (show m1 ≤ i ∨ f j < f i from .inl (by omega))
                        have P2 := hid (HT1.out.put (k := q) (f j))
                        have M2 := hid (HM.out.stepJ S1.out S2.out (by omega) HC.out)
                        unfold iF at cj
                        go_wp2
                        go_quiet (fail)
                        go_wp2
                        go_roundw
                        case rel => exact ⟨i, j + 1, q + 1, _, by go_num, by go_num, by go_num, by omega, by omega, by omega, P2.out.drewN _, M2⟩
                        case measure => simp [intOf]; omega
                    · have e1' : i = m1 := by omega
                      have e2' : j = k := by omega
                      have e3' : q = k := by omega
                      have HN := hid (show LoInv W f G1 (min (2 * W * (t + 1)) k) by
                        have hmin : min (2 * W * (t + 1)) k = k := by rw [← hT1e.out]; omega
                        rw [hmin]
                        have hm2 := HM.out
                        rw [e1', e2', e3', hloe.out] at hm2
                        have hmin0 : min (2 * W * t) k = 2 * W * t := by have := hloe.out; omega
                        have hl2 := HL.out
                        rw [hmin0] at hl2
                        exact hl2.next hW hm2)
                      go_wp2
                      go_roundw
                      case rel => exact ⟨t + 1, G1, by rw [← hT1e.out], by rw [← hT1e.out]; omega, hT1, HN⟩
                      case measure => simp [intOf]; omega
                · have S1 := hid (SA.out k (by omega) (by omega))
                  have S2 : Hid (Seg f k k) := hid (fun p q h1 h2 h3 => by omega)
                  have y1 : decide (k < m1) = true := by simp; omega
                  have y2 : decide (k < h1) = true := by simp; omega
                  clear g1 g2
                  have HT := hid hT
                  clear hT
                  go_wp2
                  go_loopw [11, 12, 13] (fun vi vj vk wr => KRel w k s d f G lo k k vi vj vk wr) (fun _ _ vk _ => k - (intOf vk).toNat)
                  case atStart => exact ⟨lo, k, lo, G, rfl, rfl, rfl, by omega, by omega, by omega, HT.out, hid (MInv.start f G (by omega) (by omega))⟩
                  case round =>
                    obtain ⟨i, j, q, G1, rfl, rfl, rfl, hi1, hj1, hq1, hT1, HM⟩ := hrel
                    have hkk := HM.out.kk
                    have hmj := HM.out.mj
                    have HT1 := hid hT1
                    by_cases hq : q < k
                    · have cd := hT1.dst.cell (i := q) (by omega)
                      have fd := hT1.dst.frozen q
                      unfold iF at cd
                      clear hT1 HT
                      by_cases him : i < k
                      · have ci := HT1.out.src.cell (i := i) (by omega)
                        by_cases hjh : j < k
                        · exfalso; omega
                        · have d1 : decide ((i : Int) < (k : Int)) = true := by simp; omega
                          have d2 : decide ((k : Int) ≤ (j : Int)) = true := by simp; omega
                          have i1 : (i : Int) < (k : Int) := by omega
                          have i3 : (q : Int) < (k : Int) := by omega
                          have HC := hid (show k ≤ j ∨ f i ≤ f j from .inl (by omega))
                          have P2 := hid (HT1.out.put (k := q) (f i))
                          have M2 := hid (HM.out.stepI S1.out S2.out (by omega) HC.out)
                          unfold iF at ci
                          go_wp2
                          go_quiet (fail)
                          go_wp2
                          go_roundw
                          case rel => exact ⟨i + 1, j, q + 1, _, by go_num, by go_num, by go_num, by omega, by omega, by omega, P2.out.drewN _, M2⟩
                          case measure => simp [intOf]; omega
                      · exfalso; omega
                    · have e1' : i = k := by omega
                      have e2' : j = k := by omega
                      have e3' : q = k := by omega
                      have HN := hid (show LoInv W f G1 (min (2 * W * (t + 1)) k) by
                        have hmin : min (2 * W * (t + 1)) k = k := by rw [← hT1e.out]; omega
                        rw [hmin]
                        have hm2 := HM.out
                        rw [e1', e2', e3', hloe.out] at hm2
                        have hmin0 : min (2 * W * t) k = 2 * W * t := by have := hloe.out; omega
                        have hl2 := HL.out
                        rw [hmin0] at hl2
                        exact hl2.next hW hm2)
                      go_wp2
                      go_roundw
                      case rel => exact ⟨t + 1, G1, by rw [← hT1e.out], by rw [← hT1e.out]; omega, hT1, HN⟩
                      case measure => simp [intOf]; omega
            · have HN := hid (LoInv.done (n := k) (W := W) (f := f) (G := G) (by
                have hmin : min (2 * W * t) k = k := by have := hloe.out; omega
                have hl2 := HL.out
                rwa [hmin] at hl2))
              go_wp2
              go_roundw
              case rel => exact ⟨d, s, 2 * W, G, f, rfl, rfl, by go_num, by omega, by omega, hT.swap, hid ⟨HN.out.1, HN.out.2.trans HF.out.2⟩⟩
              case measure => simp [intOf]; omega
        · go_wp2
          go_ret
          exact ⟨s, f, rfl, hT.src, HF.out.1.full (by omega), HF.out.2, hT.bel⟩
end Go.Proofs.Qxb6600159a
