import Derived.Test.Qxb6600159aA2
namespace Go.Proofs.Qxb6600159a
open Go.RowKit Go.Maps
set_option linter.unusedVariables false

theorem trim_size {l : List UInt8} : (Lib.trimPrefix l [42, 46]).length ≤ l.length := by
  unfold Lib.trimPrefix
  split
  · simp
  · exact Nat.le_refl _

/-- What CutPrefix at '*.' gives, in the classes' words. -/
theorem cut_cls {s : ByteArray} (h : s.data.toList ≠ []) (hs : s.size ≤ maxLen) : ∃ (K : ByteArray) (b : Bool), (∀ w, Calls Try.prog 45 #[.string s, .string ⟨#[42, 46]⟩] w fun e w' => e = .returned (.tuple #[.string K, .bool b]) ∧ w' = w) ∧ K.size ≤ maxLen ∧
    (b = true → cls s.data.toList = (2, K.data.toList)) ∧ (b = false → cls s.data.toList = (1, s.data.toList)) := by
  refine ⟨⟨(Lib.trimPrefix s.data.toList [42, 46]).toArray⟩, Lib.hasPrefix s.data.toList [42, 46], fun w => cut45 s ⟨#[42, 46]⟩ w, ?_, fun hb => ?_, fun hb => ?_⟩
  · have := trim_size (l := s.data.toList)
    rw [Lib.size_eq] at hs
    show (Lib.trimPrefix s.data.toList [42, 46]).toArray.size ≤ maxLen
    simp
    simp at this hs
    omega
  · exact cls_pre h hb
  · rw [(cls_nopre h hb).1, (cls_nopre h hb).2]

set_option maxHeartbeats 1000000 in
theorem rules43_hit (w : World) (X M1 M2 n : Nat) (g : Nat × List UInt8 → Option Nat) (hI : Idx w X M1 M2 n g) (s : ByteArray) (hs : s.size ≤ maxLen) (a : Addr) (ha : ptrOf X g (cls s.data.toList) = some a) :
    Calls Try.prog 43 #[.pointer (some ⟨X, 0, none⟩), .string s] w (HitPost w a) := by
  have x0 := hI.x0
  have x1 := hI.x1
  by_cases he : s.data.toList = []
  · have h : s.toList.isEmpty = true := by rw [Lib.toList_data, he]; rfl
    rw [he] at ha
    obtain rfl : (⟨X, 2, none⟩ : Addr) = a := by simpa [ptrOf, cls] using ha
    clear ha
    go_enter Try.func43, Try.ntmps43
    go_wp2
    go_ret
    exact ⟨rfl, rfl⟩
  · have h : s.toList.isEmpty = false := by rw [Lib.toList_data]; simpa using he
    obtain ⟨K, b, C, hK, hb1, hb2⟩ := cut_cls he hs
    cases b
    · have hc := hb2 rfl
      have hl := hI.m1.look hs
      rw [hc] at ha
      obtain ⟨q, hq, rfl⟩ : ∃ q, g (1, s.data.toList) = some q ∧ (⟨q, 0, none⟩ : Addr) = a := by simpa [ptrOf] using ha
      rw [hq] at hl
      have HC := hid C
      clear hb1 hb2 hc ha C hq
      go_enter Try.func43, Try.ntmps43
      go_wp2_with (first | (go_at_call 45; refine (HC.out _).mono ?_; rintro e w' ⟨rfl, rfl⟩) | fail)
      go_ret
      exact ⟨rfl, rfl⟩
    · have hc := hb1 rfl
      have hl := hI.m2.look hK
      rw [hc] at ha
      obtain ⟨q, hq, rfl⟩ : ∃ q, g (2, K.data.toList) = some q ∧ (⟨q, 0, none⟩ : Addr) = a := by simpa [ptrOf] using ha
      rw [hq] at hl
      have HC := hid C
      clear hb1 hb2 hc ha C hq
      go_enter Try.func43, Try.ntmps43
      go_wp2_with (first | (go_at_call 45; refine (HC.out _).mono ?_; rintro e w' ⟨rfl, rfl⟩) | fail)
      go_ret
      exact ⟨rfl, rfl⟩

theorem heap_last (W : World) (o : Obj) : (W.alloc o).heap[W.heap.size]? = some o := by
  show (W.heap.push o)[W.heap.size]? = some o
  simp

theorem gAdd_inj {w : World} {X M1 M2 n : Nat} {g : Nat × List UInt8 → Option Nat} (h : Idx w X M1 M2 n g) (c : Nat × List UInt8) : ∀ q q' b, gAdd g c w.heap.size q = some b → gAdd g c w.heap.size q' = some b → q = q' := by
  intro q q' b h1 h2
  unfold gAdd at h1 h2
  split at h1
  · rename_i e1
    cases h1
    split at h2
    · rename_i e2
      rw [e1, e2]
    · have := (h.new q' _ h2).2
      omega
  · split at h2
    · cases h2
      have := (h.new q _ h1).2
      omega
    · exact h.inj q q' b h1 h2

theorem Idx.lt {w : World} {X M1 M2 n : Nat} {g : Nat × List UInt8 → Option Nat} (h : Idx w X M1 M2 n g) : X < w.heap.size := World.block_lt_of_cell? _ _ h.x0

theorem idx_add {w w2 : World} {X M1 M2 n M : Nat} {g : Nat × List UInt8 → Option Nat} {c : Nat × List UInt8} {o : Obj} {oc : Array Value} {ot : Nat} (ho : o = .cells oc ot (0, 0)) (h : Idx w X M1 M2 n g) (hM : M = M1 ∨ M = M2) (hg : (w.alloc o).grownBy w2 (some M))
    (h1 : OwnP w2 M1 (n + 1) (fun l => gAdd g c w.heap.size (1, l))) (h2 : OwnP w2 M2 (n + 1) (fun l => gAdd g c w.heap.size (2, l))) : Idx w2 X M1 M2 (n + 1) (gAdd g c w.heap.size) ∧ Keeps M1 M2 w w2 ∧ (Boxes w X g → Boxes w2 X (gAdd g c w.heap.size)) := by
  have hsz : (w.alloc o).heap.size = w.heap.size + 1 := by simp
  have hb : ∀ k, k < w.heap.size → k ≠ M → w2.heap[k]? = w.heap[k]? := fun k hk hne => (hg.block k (by omega) (by simpa using hne)).trans (Below.heap_alloc w o k hk)
  have hX := hb X h.lt (by rcases hM with rfl | rfl; exact h.ne.2.1; exact h.ne.2.2)
  have hs := hg.size
  have hmap : ∀ b c t, w.heap[b]? = some (.cells c t (0, 0)) → b ≠ M := by
    intro b c t hc e
    subst e
    obtain ⟨es, cl, hm⟩ : ∃ es cl, w.heap[b]? = some (.map es cl) := by
      rcases hM with e | e
      · rw [e]; obtain ⟨D, _, ⟨es, cl, hm, _⟩, _⟩ := h.m1; exact ⟨es, cl, hm⟩
      · rw [e]; obtain ⟨D, _, ⟨es, cl, hm, _⟩, _⟩ := h.m2; exact ⟨es, cl, hm⟩
    rw [hm] at hc
    cases hc
  have hMl : M < w.heap.size := by
    rcases hM with e | e
    · rw [e]; exact h.m1.lt
    · rw [e]; exact h.m2.lt
  have hbox : Boxes w X g → Boxes w2 X (gAdd g c w.heap.size) := by
    intro hB
    refine ⟨?_, fun q b hq => ?_⟩
    · obtain ⟨c, t, e⟩ := hB.1
      exact ⟨c, t, hX.trans e⟩
    · unfold gAdd at hq
      split at hq
      · cases hq
        refine ⟨oc, ot, (hg.block w.heap.size (by omega) (by simp; omega)).trans ?_⟩
        rw [ho]
        show (w.heap.push _)[w.heap.size]? = _
        simp
      · obtain ⟨c, t, e⟩ := hB.2 q b hq
        exact ⟨c, t, (hb b (h.new q b hq).2 (hmap b c t e)).trans e⟩
  refine ⟨⟨(World.cell?_of_block (a := ⟨X, 0, none⟩) hX).trans h.x0, (World.cell?_of_block (a := ⟨X, 1, none⟩) hX).trans h.x1, h1, h2, gAdd_inj h c, fun q b hq => ?_, h.ne⟩, ⟨hg.os, hg.tape, hg.output, by omega, fun k hk n1 n2 => hb k hk (by rcases hM with rfl | rfl; exact n1; exact n2)⟩, hbox⟩
  unfold gAdd at hq
  split at hq
  · cases hq
    have := h.lt
    omega
  · have := h.new q b hq
    omega

theorem own_other {w w2 : World} {M M' n : Nat} {g : List UInt8 → Option Nat} {o : Obj} (h : OwnP w M n g) (hg : (w.alloc o).grownBy w2 (some M')) (hne : M ≠ M') : OwnP w2 M (n + 1) g :=
  (h.block ((hg.block M (by have := h.lt; simp; omega) (by simpa using hne)).trans (Below.heap_alloc w o M h.lt))).mono (by omega)

theorem pPut1 (g : Nat × List UInt8 → Option Nat) (k : List UInt8) (B : Nat) : (fun l => gAdd g (1, k) B (1, l)) = pPut (fun l => g (1, l)) k B := by funext l; simp [gAdd, pPut]
theorem pPut2 (g : Nat × List UInt8 → Option Nat) (k : List UInt8) (B : Nat) : (fun l => gAdd g (2, k) B (2, l)) = pPut (fun l => g (2, l)) k B := by funext l; simp [gAdd, pPut]
theorem pPut12 (g : Nat × List UInt8 → Option Nat) (k : List UInt8) (B : Nat) : (fun l => gAdd g (1, k) B (2, l)) = fun l => g (2, l) := by funext l; simp [gAdd]
theorem pPut21 (g : Nat × List UInt8 → Option Nat) (k : List UInt8) (B : Nat) : (fun l => gAdd g (2, k) B (1, l)) = fun l => g (1, l) := by funext l; simp [gAdd]

def rulesZ : Obj := .cells #[.map none, .map none, .slice none 0 0] 63

set_option maxHeartbeats 1000000 in
theorem rules43_miss (w : World) (X M1 M2 n : Nat) (g : Nat × List UInt8 → Option Nat) (hI : Idx w X M1 M2 n g) (hn : n < 100000) (s : ByteArray) (hs : s.size ≤ maxLen) (ha : ptrOf X g (cls s.data.toList) = none) :
    Calls Try.prog 43 #[.pointer (some ⟨X, 0, none⟩), .string s] w (MissPost w X M1 M2 n g (cls s.data.toList)) := by
  have x0 := hI.x0
  have x1 := hI.x1
  by_cases he : s.data.toList = []
  · rw [he] at ha
    simp [ptrOf, cls] at ha
  · have h : s.toList.isEmpty = false := by rw [Lib.toList_data]; simpa using he
    obtain ⟨K, b, C, hK, hb1, hb2⟩ := cut_cls he hs
    cases b
    · have hc := hb2 rfl
      have hl := hI.m1.look hs
      rw [hc] at ha ⊢
      have hq : g (1, s.data.toList) = none := by simpa [ptrOf] using ha
      rw [hq] at hl
      obtain ⟨w2, hup, hown, hgr⟩ := (hI.m1.block (Below.heap_alloc w rulesZ M1 hI.m1.lt)).store hn hs w.heap.size
      have R := hid (idx_add (o := rulesZ) rfl (c := (1, s.data.toList)) hI (.inl rfl) hgr (by rw [pPut1]; exact hown) (by rw [pPut12]; exact own_other hI.m2 hgr (Ne.symm hI.ne.1)))
      have HC := hid C
      unfold rulesZ at hup
      clear hb1 hb2 hc ha C hq hown hgr
      go_enter Try.func43, Try.ntmps43
      go_wp2_with (first | (go_at_call 45; refine (HC.out _).mono ?_; rintro e w' ⟨rfl, rfl⟩) | fail)
      go_ret
      exact ⟨rfl, R.out⟩
    · have hc := hb1 rfl
      have hl := hI.m2.look hK
      rw [hc] at ha ⊢
      have hq : g (2, K.data.toList) = none := by simpa [ptrOf] using ha
      rw [hq] at hl
      obtain ⟨w2, hup, hown, hgr⟩ := (hI.m2.block (Below.heap_alloc w rulesZ M2 hI.m2.lt)).store hn hK w.heap.size
      have R := hid (idx_add (o := rulesZ) rfl (c := (2, K.data.toList)) hI (.inr rfl) hgr (by rw [pPut21]; exact own_other hI.m1 hgr hI.ne.1) (by rw [pPut2]; exact hown))
      have HC := hid C
      unfold rulesZ at hup
      clear hb1 hb2 hc ha C hq hown hgr
      go_enter Try.func43, Try.ntmps43
      go_wp2_with (first | (go_at_call 45; refine (HC.out _).mono ?_; rintro e w' ⟨rfl, rfl⟩) | fail)
      go_ret
      exact ⟨rfl, R.out⟩

theorem zz37_hit (w : World) (X M1 M2 n : Nat) (g : Nat × List UInt8 → Option Nat) (hI : Idx w X M1 M2 n g) (s : ByteArray) (hs : s.size ≤ maxLen) (a : Addr) (ha : ptrOf X g (cls s.data.toList) = some a) :
    Calls Try.prog 37 #[.pointer (some ⟨X, 0, none⟩), .string s] w (HitPost w a) := by
  have C := hid (rules43_hit w X M1 M2 n g hI s hs a ha)
  clear hI ha
  go_enter Try.func37, Try.ntmps37
  go_wp2_with (first | (go_at_call 43; refine C.out.mono ?_; rintro e w' ⟨rfl, rfl⟩) | fail)
  go_ret
  exact ⟨rfl, rfl⟩

theorem zz37_miss (w : World) (X M1 M2 n : Nat) (g : Nat × List UInt8 → Option Nat) (hI : Idx w X M1 M2 n g) (hn : n < 100000) (s : ByteArray) (hs : s.size ≤ maxLen) (ha : ptrOf X g (cls s.data.toList) = none) :
    Calls Try.prog 37 #[.pointer (some ⟨X, 0, none⟩), .string s] w (MissPost w X M1 M2 n g (cls s.data.toList)) := by
  have C := hid (rules43_miss w X M1 M2 n g hI hn s hs ha)
  clear hI ha
  go_enter Try.func37, Try.ntmps37
  go_wp2_with fail
  refine C.out.mono ?_
  rintro e w' ⟨rfl, h⟩
  have R := hid h
  clear h
  go_wp2_with fail
  go_ret
  exact ⟨rfl, R.out⟩

/-- What ZZNewIndex returns. -/
def NewPost (w : World) (e : Ending) (w' : World) : Prop :=
  ∃ X M1 M2, e = .returned (.pointer (some ⟨X, 0, none⟩)) ∧ Idx w' X M1 M2 0 (fun _ => none) ∧ Boxes w' X (fun _ => none) ∧ w.heap.size ≤ X ∧ w.heap.size ≤ M1 ∧ w.heap.size ≤ M2 ∧ Below w.heap.size w w'

theorem new36 (w : World) : Calls Try.prog 36 #[] w (NewPost w) := by
  have hmm := @run_makeMap Try.prog
  have h1 := OwnP.made w
  have h2 := OwnP.made (w.alloc (.map #[] 0))
  go_enter Try.func36, Try.ntmps36
  go_wp2
  go_ret
  have hc : ∀ (W : World) (c : Array Value) (t i : Nat) (v : Value), c[i]? = some v → (W.alloc (.cells c t)).cell? ⟨W.heap.size, i, none⟩ = some v := fun W c t i v h => resC (c := c) (t := t) (by show (W.heap.push _)[W.heap.size]? = _; simp) i v h
  have c0 := hc ((w.alloc (.map #[] 0)).alloc (.map #[] 0)) #[.map (some w.heap.size), .map (some (w.heap.size + 1)), .map none, .map none, .slice none 0 0] 67 0 _ rfl
  have c1 := hc ((w.alloc (.map #[] 0)).alloc (.map #[] 0)) #[.map (some w.heap.size), .map (some (w.heap.size + 1)), .map none, .map none, .slice none 0 0] 67 1 _ rfl
  have h3 := h2.block (w' := ((w.alloc (.map #[] 0)).alloc (.map #[] 0)).alloc (.cells #[.map (some w.heap.size), .map (some (w.heap.size + 1)), .map none, .map none, .slice none 0 0] 67)) (Below.heap_alloc _ _ _ (by simp))
  have e2 : ((w.alloc (.map #[] 0)).alloc (.map #[] 0)).heap.size = w.heap.size + 2 := by simp
  have e1 : (w.alloc (.map #[] 0)).heap.size = w.heap.size + 1 := by simp
  rw [e2] at c0 c1
  rw [e1] at h3
  have hbx : (((w.alloc (.map #[] 0)).alloc (.map #[] 0)).alloc (.cells #[.map (some w.heap.size), .map (some (w.heap.size + 1)), .map none, .map none, .slice none 0 0] 67)).heap[w.heap.size + 2]? = some (.cells #[.map (some w.heap.size), .map (some (w.heap.size + 1)), .map none, .map none, .slice none 0 0] 67 (0, 0)) := by
    rw [← e2]
    exact heap_last _ _
  exact ⟨w.heap.size + 2, w.heap.size, w.heap.size + 1, rfl, ⟨c0, c1, (h1.block (Below.heap_alloc _ _ _ (by simp))).block (Below.heap_alloc _ _ _ (by omega)), h3, fun q q' b h => (by cases h), fun q b h => (by cases h), by omega⟩, ⟨⟨_, _, hbx⟩, fun q b h => (by cases h)⟩, by omega, by omega, by omega, (((Below.refl _ _).alloc (by omega) _).alloc (by omega) _).alloc (by omega) _⟩
end Go.Proofs.Qxb6600159a
