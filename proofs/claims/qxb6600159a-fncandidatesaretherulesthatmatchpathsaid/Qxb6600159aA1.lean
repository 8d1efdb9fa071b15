import Derived.Test.Qxb6600159aA0
import Derived.Lib.Strings
import Derived.Lib.Slices
import Derived.Lib.Walk
namespace Go.Proofs.Qxb6600159a
open Go.RowKit
set_option linter.unusedVariables false

/-- What CutPrefix gives. -/
def CutPost (w : World) (s p : ByteArray) (e : Ending) (w' : World) : Prop :=
  e = .returned (.tuple #[.string ⟨(Lib.trimPrefix s.data.toList p.data.toList).toArray⟩, .bool (Lib.hasPrefix s.data.toList p.data.toList)]) ∧ w' = w

set_option maxHeartbeats 1000000 in
theorem cut45 (s p : ByteArray) (w : World) : Calls Try.prog 45 #[.string s, .string p] w (CutPost w s p) := by
  go_enter Try.func45, Try.ntmps45
  go_wp2
  · have h2 : (!((s.extract 0 p.size).toList == p.toList)) = true := by assumption
    have h3 : (decide (p.size ≤ s.size) && ((s.extract 0 p.size).toList == p.toList)) = false := by
      have : ((s.extract 0 p.size).toList == p.toList) = false := by simpa using h2
      rw [this]
      simp
    go_ret2
    refine ⟨?_, rfl⟩
    rw [Lib.trimPrefix_miss s p h3, ← Lib.hasPrefix_raw, h3]
    rfl
  · have h1 : p.size ≤ s.size := by assumption
    have h2 : (!((s.extract 0 p.size).toList == p.toList)) = false := by assumption
    have h2' : ((s.extract 0 p.size).toList == p.toList) = true := by simpa using h2
    go_ret2
    refine ⟨?_, rfl⟩
    rw [Lib.trimPrefix_hit s p h1 h2', ← Lib.hasPrefix_raw, h2', decide_eq_true h1]
    rfl
  · have h1 : ¬ p.size ≤ s.size := by assumption
    have h3 : (decide (p.size ≤ s.size) && ((s.extract 0 p.size).toList == p.toList)) = false := by simp [h1]
    go_ret2
    refine ⟨?_, rfl⟩
    rw [Lib.trimPrefix_miss s p h3, ← Lib.hasPrefix_raw, h3]
    rfl

/-- The kind of a host, and its key. -/
def cls (l : List UInt8) : Nat × List UInt8 :=
  match l with
  | [] => (0, [])
  | 42 :: 46 :: r => (2, r)
  | l => (1, l)

theorem u8_42 {x : UInt8} (h : (x.toNat : Int) = 42) : x = 42 := UInt8.toNat_inj.1 (by simpa using (by omega : x.toNat = 42))
theorem u8_46 {x : UInt8} (h : (x.toNat : Int) = 46) : x = 46 := UInt8.toNat_inj.1 (by simpa using (by omega : x.toNat = 46))

theorem cls_empty {s : ByteArray} (h : s.toList.isEmpty = true) : cls s.data.toList = (0, []) := by
  rw [Lib.toList_data] at h
  rw [List.isEmpty_iff.1 h]
  rfl

theorem cls_wild {s : ByteArray} (h0 : 0 < s.size) (h1 : 1 < s.size) (e0 : (s[0].toNat : Int) = 42) (e1 : (s[1].toNat : Int) = 46) : cls s.data.toList = (2, (s.extract 2 s.size).data.toList) := by
  rw [Lib.extract_data, Lib.size_eq]
  obtain ⟨⟨l⟩⟩ := s
  have e0' := u8_42 e0
  have e1' := u8_46 e1
  match l, h1 with
  | a :: b :: r, _ =>
    obtain rfl : a = 42 := e0'
    obtain rfl : b = 46 := e1'
    simp [cls]

theorem cls_other1 {s : ByteArray} (he : s.toList.isEmpty = false) (h : s.size < 2) : cls s.data.toList = (1, s.data.toList) := by
  rw [Lib.toList_data] at he
  rw [Lib.size_eq] at h
  obtain ⟨⟨l⟩⟩ := s
  match l, h, he with
  | [a], _, _ => simp [cls]

theorem cls_other0 {s : ByteArray} (h0 : 0 < s.size) (e0 : ¬ (s[0].toNat : Int) = 42) : cls s.data.toList = (1, s.data.toList) := by
  obtain ⟨⟨l⟩⟩ := s
  match l, h0 with
  | a :: r, _ =>
    have : a ≠ 42 := fun e => e0 (by subst e; rfl)
    unfold cls
    split
    · rename_i h; cases h
    · rename_i h; simp at h; exact absurd h.1 this
    · rfl

theorem cls_other2 {s : ByteArray} (h1 : 1 < s.size) (e1 : ((s[1].toNat : Int) == 46) = false) : cls s.data.toList = (1, s.data.toList) := by
  obtain ⟨⟨l⟩⟩ := s
  match l, h1 with
  | a :: b :: r, _ =>
    have : b ≠ 46 := fun e => by subst e; exact absurd e1 (show ¬ (((46 : UInt8).toNat : Int) == 46) = false by decide)
    unfold cls
    split
    · rename_i h; cases h
    · rename_i h; simp at h; exact absurd h.2.1 this
    · rfl

def ClsPost (w : World) (s : ByteArray) (e : Ending) (w' : World) : Prop :=
  e = .returned (.tuple #[.int .i64 ((cls s.data.toList).1 : Nat), .string ⟨(cls s.data.toList).2.toArray⟩]) ∧ ∃ m, w' = w.drewN m

set_option maxHeartbeats 1000000 in
theorem class44 (s : ByteArray) (w : World) (hs : s.size ≤ 9223372036854775807) : Calls Try.prog 44 #[.string s] w (ClsPost w s) := by
  go_enter Try.func44, Try.ntmps44
  go_wp2
  · rename_i h
    go_ret2
    exact ⟨by rw [cls_empty h]; rfl, 0, rfl⟩
  · have h2 : 2 ≤ (s.size : Int) := by assumption
    have g0 : 0 < s.size := by assumption
    have e0 : (s[0].toNat : Int) = 42 := by assumption
    have g1 : 1 < s.size := by omega
    have e1 : (((s[1]'g1).toNat : Int) == 46) = true := by assumption
    have H := hid (cls_wild g0 g1 e0 (by simpa using e1))
    clear e0 e1
    go_quiet (fail)
    go_wp2
    go_ret2
    refine ⟨by rw [H.out, Lib.mk_data]; rfl, _, rfl⟩
  · have g1' : 1 < (s.size : Int) := by assumption
    have g1 : 1 < s.size := by omega
    have e1 : (((s[1]'g1).toNat : Int) == 46) = false := by assumption
    go_ret2
    exact ⟨by rw [cls_other2 g1 e1, Lib.mk_data]; rfl, 0, rfl⟩
  · have g0 : 0 < s.size := by assumption
    have e0 : ¬ (s[0].toNat : Int) = 42 := by assumption
    go_ret2
    exact ⟨by rw [cls_other0 g0 e0, Lib.mk_data]; rfl, 0, rfl⟩
  · have g0 : s.toList.isEmpty = false := by assumption
    have e0 : (s.size : Int) < 2 := by assumption
    go_ret2
    exact ⟨by rw [cls_other1 g0 (by omega), Lib.mk_data]; rfl, 0, rfl⟩

/-- What sameHostKey returns. -/
def SamePost (w : World) (p : Prop) (e : Ending) (w' : World) : Prop := ∃ b : Bool, e = .returned (.bool b) ∧ (b = true ↔ p) ∧ ∃ m, w' = w.drewN m

set_option maxHeartbeats 1000000 in
theorem same38 (s t : ByteArray) (w : World) (hs : s.size ≤ 9223372036854775807) (ht : t.size ≤ 9223372036854775807) :
    Calls Try.prog 38 #[.string s, .string t] w (SamePost w (cls s.data.toList = cls t.data.toList)) := by
  have C1 := hid (fun W => class44 s W hs)
  have C2 := hid (fun W => class44 t W ht)
  clear hs ht
  obtain ⟨c1, h1⟩ : ∃ c, c = (cls s.data.toList).1 := ⟨_, rfl⟩
  obtain ⟨k1, h2⟩ : ∃ c, c = (cls s.data.toList).2 := ⟨_, rfl⟩
  obtain ⟨c2, h3⟩ : ∃ c, c = (cls t.data.toList).1 := ⟨_, rfl⟩
  obtain ⟨k2, h4⟩ : ∃ c, c = (cls t.data.toList).2 := ⟨_, rfl⟩
  have HE : Hid (cls s.data.toList = cls t.data.toList ↔ c1 = c2 ∧ k1 = k2) := hid (by rw [h1, h2, h3, h4]; exact Prod.ext_iff)
  unfold ClsPost at C1 C2
  rw [← h1, ← h2] at C1
  rw [← h3, ← h4] at C2
  clear h1 h2 h3 h4
  go_enter Try.func38, Try.ntmps38
  go_wp2_with fail
  refine (C1.out _).mono ?_
  rintro e w1 ⟨rfl, m1, rfl⟩
  go_wp2_with fail
  refine (C2.out _).mono ?_
  rintro e w2 ⟨rfl, m2, rfl⟩
  have hd : c1 = c2 ∨ c1 ≠ c2 := by omega
  rcases hd with hd | hd
  · have hb : ((c1 : Int) == (c2 : Int)) = true := by simp [hd]
    have hD := hid hd
    clear hd
    go_wp2_with fail
    go_ret
    refine ⟨_, rfl, ?_, _, rfl⟩
    rw [HE.out]
    simp [hD.out]
  · have hb : ((c1 : Int) == (c2 : Int)) = false := by simp; omega
    have hD := hid hd
    clear hd
    go_wp2_with fail
    go_ret
    refine ⟨_, rfl, ?_, _, rfl⟩
    rw [HE.out]
    simp [hD.out]
end Go.Proofs.Qxb6600159a
