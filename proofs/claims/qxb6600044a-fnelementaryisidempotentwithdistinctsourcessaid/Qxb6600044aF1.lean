import Derived.Test.Qxb6600044aE8
import Derived.Test.Qxb6600044aD3
namespace Go.Proofs.Qxb6600044a
open Go.RowKit
set_option linter.unusedVariables false

def RetArcsN (w : World) (n : Nat) (xs : List Arc) (e : Ending) (w' : World) : Prop :=
  ∃ a' c', e = .returned (.slice a' n c') ∧ n ≤ c' ∧ Arcs w' a' xs ∧ Below w.heap.size w w'
theorem arcsN {w : World} {n : Nat} {xs : List Arc} (hn : xs.length = n) : ∀ e w', RetArcs w xs e w' → RetArcsN w n xs e w' := by
  subst hn
  exact fun _ _ h => h

theorem clone11N (a : Option Addr) (c n : Nat) (xs : List Arc) (w : World) (h : Arcs w a xs) (hx : xs.length = n) (hn : n ≤ 4096) : Calls Try.prog 11 #[.slice a n c] w (RetArcsN w n xs) := by
  subst hx; exact clone11 a c xs w h hn
theorem toZZ14N (a : Option Addr) (c n : Nat) (xs : List Arc) (w : World) (h : Arcs w a xs) (hx : xs.length = n) (hn : n ≤ 4096) : Calls Try.prog 14 #[.slice a n c] w (RetArcsN w n xs) := by
  subst hx; exact toZZ14 a c xs w h hn
theorem fromZZ12N (a : Option Addr) (c n : Nat) (xs : List Arc) (w : World) (h : Arcs w a xs) (hx : xs.length = n) (hn : n ≤ 4096) : Calls Try.prog 12 #[.slice a n c] w (RetArcsN w n xs) := by
  subst hx; exact fromZZ12 a c xs w h hn

theorem zz13 (a : Option Addr) (n c : Nat) (xs : List Arc) (w : World) (hx : Arcs w a xs) (hn : xs.length = n) (hnc : n ≤ c) (hn4 : n ≤ 4096) (hf : FromsOk xs) :
    Calls Try.prog 13 #[.slice a n c] w (RetEl w xs) := by
  have C := hid (elementary42 a n c xs w hx hn hnc hn4 hf)
  clear hx hn hf
  go_enter Try.func13, Try.ntmps13
  go_wp2_with fail
  refine C.out.mono ?_
  rintro e w' ⟨a1, n1, c1, cs, rfl, h⟩
  have H := hid h
  clear h
  go_wp2
  go_ret
  exact ⟨a1, n1, c1, cs, rfl, H.out⟩

theorem belowD {B : Nat} {w w' : World} (h : Below B w w') (m : Nat) : Below B w (w'.drewN m) := ⟨h.os, h.tape, h.output, h.size, h.block⟩

theorem short_sub {xs cs : List Arc} (h : Short xs cs) : SubM cs xs := fun i _ => h.count _

def ElPost (w : World) (e : Ending) (w' : World) : Prop := e = .returned (.bool true) ∧ Below w.heap.size w w'

set_option maxRecDepth 100000 in
set_option maxHeartbeats 1000000 in
theorem law4 (a : Option Addr) (n c : Nat) (xs : List Arc) (w : World) (hmax : n ≤ 9223372036854775807) (hx : n ≤ 1048576 → Arcs w a xs) (hn : xs.length = n) (hf : FromsOk xs) :
    Calls Try.prog 4 #[.slice a n c] w (ElPost w) := by
  have HX := hid hn
  have HA := hid hx
  have HF := hid hf
  clear hn hx hf
  go_enter Try.func4, Try.ntmps4
  go_wp2_with fail
  refine (zz17 a n c w hmax).mono ?_
  rintro e w1 ⟨b, rfl, hb, hw⟩
  obtain rfl := hw.symm
  cases b
  · clear hb
    go_wp2
    go_ret
    exact ⟨rfl, Below.refl _ _⟩
  have hn1 := hb rfl
  clear hb hmax
  by_cases hn4 : n ≤ 4096
  · go_wp2_with fail
    refine (clone11N a c n xs w (HA.out hn1) HX.out hn4).mono ?_
    rintro e w1 ⟨a1, c1, rfl, hc1, hA1, hb1⟩
    have A1 := hid hA1
    have B1 := hid hb1
    clear hA1 hb1 hc1 HA
    go_wp2_with fail
    refine (toZZ14N a1 c1 n xs w1 A1.out HX.out hn4).mono ?_
    rintro e w2 ⟨a2, c2, rfl, hc2, hA2, hb2⟩
    have A2 := hid hA2
    have B2 := hid hb2
    clear hA2 hb2
    go_wp2_with fail
    refine (zz13 a2 n c2 xs w2 A2.out HX.out hc2 hn4 HF.out).mono ?_
    rintro e w3 ⟨a3, m, c3, cs, rfl, hc3, hm4, hm, hA3, hS, hF, hD, hb3⟩
    have A3 := hid hA3
    have B3 := hid hb3
    have HM := hid hm
    have HS := hid hS
    have HF3 := hid hF
    have HD := hid hD
    clear hA3 hb3 hm hS hF hD
    go_wp2_with fail
    refine (fromZZ12N a3 c3 m cs w3 A3.out HM.out hm4).mono ?_
    rintro e w4 ⟨a4, c4, rfl, hc4, hA4, hb4⟩
    have A4 := hid hA4
    have B4 := hid hb4
    clear hA4 hb4
    have B14 : Hid (Below w1.heap.size w1 w4) := hid (B2.out.trans ((B3.out.trans (B4.out.mono B3.out.size)).mono B2.out.size))
    have A14 := hid (A1.out.later B14.out)
    have B04 : Hid (Below w.heap.size w w4) := hid (B1.out.trans (B14.out.mono B1.out.size))
    clear A1 A2 A3 B1 B2 B3 B4 hc2 hc3
    have hz : (n = 0 ∧ m = 0) ∨ (0 < n ∧ 0 < m) := by
      have h1 : m = 0 ↔ n = 0 := by rw [← HM.out, ← HX.out, List.length_eq_zero_iff, List.length_eq_zero_iff]; exact HS.out.nil
      omega
    have hz' : ((m : Int) == 0) = ((n : Int) == 0) := by
      rcases hz with ⟨rfl, rfl⟩ | ⟨h1, h2⟩
      · rfl
      · have e1 : ((m : Int) == 0) = false := by simp; omega
        have e2 : ((n : Int) == 0) = false := by simp; omega
        rw [e1, e2]
    clear hz
    go_wp2_with fail
    refine (distinct15 a4 c4 m cs w4 A4.out HM.out hm4).mono ?_
    rintro e w5 ⟨b5, rfl, hb5, q5, rfl⟩
    obtain rfl : b5 = true := hb5.2 (by have := (distF_iff cs).2 HD.out; rwa [HM.out] at this)
    clear hb5
    have A4' := hid (show Arcs (w4.drewN q5) a4 cs from A4.out)
    have A14' := hid (show Arcs (w4.drewN q5) a1 xs from A14.out)
    go_wp2_with fail
    refine (sub16 a4 a1 c4 c1 m n cs xs _ A4'.out A14'.out HM.out HX.out hm4 hn4).mono ?_
    rintro e w6 ⟨b6, rfl, hb6, hB6⟩
    obtain rfl : b6 = true := hb6.2 (short_sub HS.out)
    have B46 : Hid (Below w4.heap.size w4 w6) := hid ((belowD (Below.refl _ w4) q5).trans hB6)
    clear hb6 hB6 A4' A14'
    have A46 := hid (A4.out.later B46.out)
    have A16 := hid (A14.out.later B46.out)
    have B06 : Hid (Below w.heap.size w w6) := hid (B04.out.trans (B46.out.mono B04.out.size))
    clear A4 A14 B46 B04 B14
    go_wp2_with fail
    refine (toZZ14N a4 c4 m cs w6 A46.out HM.out hm4).mono ?_
    rintro e w7 ⟨a7, c7, rfl, hc7, hA7, hb7⟩
    have A7 := hid hA7
    have B7 := hid hb7
    clear hA7 hb7
    go_wp2_with fail
    refine (zz13 a7 m c7 cs w7 A7.out HM.out hc7 hm4 HF3.out).mono ?_
    rintro e w8 ⟨a8, m8, c8, cs8, rfl, hc8, hm84, hm8, hA8, hS8, hF8, hD8, hb8⟩
    have e8 := hS8.same HD.out
    subst e8
    obtain rfl : m8 = m := hm8.symm.trans HM.out
    have A8 := hid hA8
    have B8 := hid hb8
    clear hA8 hb8 hm8 hS8 hF8 hD8
    go_wp2_with fail
    refine (fromZZ12N a8 c8 m8 cs8 w8 A8.out HM.out hm4).mono ?_
    rintro e w9 ⟨a9, c9, rfl, hc9, hA9, hb9⟩
    have A9 := hid hA9
    have B69 : Hid (Below w6.heap.size w6 w9) := hid (B7.out.trans ((B8.out.trans (hb9.mono B8.out.size)).mono B7.out.size))
    have A49 := hid (A46.out.later B69.out)
    have A19 := hid (A16.out.later B69.out)
    have B09 : Hid (Below w.heap.size w w9) := hid (B06.out.trans (B69.out.mono B06.out.size))
    clear hA9 hb9 A46 A16 B06 B69 A7 A8 B7 B8
    go_wp2_with fail
    refine (same18 a9 a4 c9 c4 m8 m8 cs8 cs8 w9 A9.out A49.out HM.out HM.out hm4 hm4).mono ?_
    rintro e w10 ⟨b10, rfl, hb10, q10, rfl⟩
    obtain rfl : b10 = true := hb10.2 rfl
    clear hb10
    have A49' := hid (show Arcs (w9.drewN q10) a4 cs8 from A49.out)
    have A19' := hid (show Arcs (w9.drewN q10) a1 xs from A19.out)
    go_wp2_with fail
    refine (distinct15 a1 c1 n xs _ A19'.out HX.out hn4).mono ?_
    rintro e w11 ⟨b11, rfl, hb11, q11, rfl⟩
    cases b11
    · clear hb11
      go_wp2
      go_ret
      exact ⟨rfl, belowD B09.out _⟩
    · have hd : Dist xs := (distF_iff xs).1 (by have := hb11.1 rfl; rwa [← HX.out] at this)
      have es := HS.out.same hd
      have A49'' := hid (show Arcs (w9.drewN (q10 + q11)) a4 cs8 from A49.out)
      have A19'' := hid (show Arcs (w9.drewN (q10 + q11)) a1 xs from A19.out)
      have ES := hid es
      clear hb11 hd es
      go_wp2_with fail
      refine (same18 a4 a1 c4 c1 m8 n cs8 xs _ A49''.out A19''.out HM.out HX.out hm4 hn4).mono ?_
      rintro e w12 ⟨b12, rfl, hb12, q12, rfl⟩
      obtain rfl : b12 = true := hb12.2 ES.out
      clear hb12
      go_wp2
      go_ret
      exact ⟨rfl, belowD B09.out _⟩
  · go_wp2
    go_ret
    exact ⟨rfl, Below.refl _ _⟩
end Go.Proofs.Qxb6600044a
