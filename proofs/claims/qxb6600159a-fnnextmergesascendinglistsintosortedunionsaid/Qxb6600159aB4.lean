import Derived.Test.Qxb6600159aB3
namespace Go.Proofs.Qxb6600159a
open Go.RowKit
set_option linter.unusedVariables false

set_option maxRecDepth 100000 in
set_option maxHeartbeats 2000000 in
theorem law3 (a : Option Addr) (n c : Nat) (V : Nat → Value) (Q : Nat → List Int) (w : World) (h : Ls w a n V Q) :
    Calls Try.prog 3 #[.slice a n c] w (LawPost w) := by
  have C8 := hid (zz8 a n c V Q w h)
  have C9 := hid (lbytes9 a n c V Q w h)
  have C10 := hid (allAsc10 a n c V Q w h)
  have HL := hid h
  have hmax := h.1.1
  clear h
  go_enter Try.func3, Try.ntmps3
  go_wp2_with fail
  refine C8.out.mono ?_
  rintro e w1 ⟨b, rfl, _, hw⟩
  obtain rfl := hw.symm
  cases b
  · go_wp2
    go_ret
    exact ⟨rfl, Below.refl _ _⟩
  go_wp2_with fail
  refine C9.out.mono ?_
  rintro e w1 ⟨r, rfl, hr, hw2⟩
  obtain rfl := hw2.symm
  clear C8 C9
  by_cases hrb : 1048576 < r
  · clear hr
    go_wp2
    go_ret
    exact ⟨rfl, Below.refl _ _⟩
  have hsz := hr (by omega)
  have HSZ := hid hsz
  have hs1 : sumL Q n ≤ 1048576 := by omega
  have hn1 : n ≤ 1048576 := by omega
  clear hr hsz
  go_wp2_with fail
  refine C10.out.mono ?_
  rintro e w1 ⟨b, rfl, hasc, m, rfl⟩
  cases b
  · clear hasc
    go_wp2
    go_ret
    exact ⟨rfl, belowN (Below.refl _ _) _⟩
  have HA := hid (hasc rfl)
  clear hasc C10
  have C11 := hid (clone11 a n c V Q (w.drewN m) HL.out hs1 hn1)
  go_wp2_with fail
  refine C11.out.mono ?_
  rintro e w1 ⟨a1, c1, V1, rfl, hL1, hb1⟩
  have L1 := hid hL1
  have B1 : Hid (Below w.heap.size w w1) := hid ((belowN (Below.refl _ w) m).trans hb1)
  have S0 := hid (show ARel w1 w1.heap.size n V1 Q (.int .i64 0) (w1.alloc candZ) from ⟨0, 0, fun _ => [], fun _ => undef, .slice none 0 0, Nat.zero_le _, rfl, Cand.zero w1 _, hid (Added.zero _ _), hid (fun j hj => by omega), (Below.refl _ _).alloc (Nat.le_refl _) _⟩)
  clear hL1 hb1 C11 HL
  unfold candZ at S0
  go_wp2_with fail
  go_loopw [4] (fun i wr => ARel w1 w1.heap.size n V1 Q i wr) (fun i _ => n - (intOf i).toNat)
  case atStart => exact S0.out
  case round =>
    clear S0
    obtain ⟨k, T, P, U, mv, hk, rfl, hC, HAd, HI, hbel⟩ := hrel
    by_cases hlt : k < n
    · obtain ⟨b, off, a', c', rfl, hc, hv, hlc, _, _⟩ := (L1.out.later hbel).at hlt
      have hlen : (Q k).length ≤ 1048576 := by have := sumL_le Q hlt; omega
      have hli : (k : Int) < (n : Int) := by omega
      have hIB := ((L1.out.2 k hlt).toB (X := w1.heap.size) (Nat.le_refl _)).below hbel
      have C12 := hid (zz12 wr w1.heap.size T U mv hC (by have := HAd.out.1; omega) a' (Q k).length c' hlen)
      have NX := hid (fun w2 hp => ARel.next (V := V1) hlt rfl HAd.out HI.out hbel hIB (w2 := w2) (by rw [hv]; exact hp))
      generalize (Q k).length = l at hc hlen C12 hlc NX
      clear hC hbel hIB hv
      go_wp2_with fail
      refine C12.out.mono ?_
      rintro e w2 ⟨rfl, hp⟩
      have R2 := hid (NX.out w2 ⟨rfl, hp⟩)
      clear hp NX C12
      go_wp2_with fail
      go_roundw
      case rel => exact R2.out
      case measure => simp [intOf]; omega
    · obtain rfl : k = n := by omega
      rename World => W
      have LW := hid (L1.out.later hbel)
      have C14 := hid (total14 a1 k c1 V1 Q W LW.out hs1 hn1)
      have hTk := HAd.out.1
      have C13 := hid (drain13 W w1.heap.size T (sumL Q k) U mv P hC (by omega) hs1 HI.out (fun j hj => by
        obtain ⟨i, hi, e⟩ := HAd.out.2.1 j hj
        rw [e]
        have := sumL_le Q hi
        omega) (fun j hj => by
        obtain ⟨i, hi, e⟩ := HAd.out.2.1 j hj
        rw [e]
        exact asc_nonneg (HA.out i hi)))
      have HB := hid hbel
      clear hC hbel HI
      go_wp2_with fail
      refine C14.out.mono ?_
      rintro e w2 ⟨rfl, hw3⟩
      obtain rfl := hw3.symm
      go_wp2_with fail
      refine C13.out.mono ?_
      rintro e w2 ⟨v, o, b, rfl, hv, hb2, hlo, hres⟩
      obtain ⟨rfl, hoa, hom⟩ := run_union HAd.out HA.out rfl hres
      clear hres C13 C14
      have hbX : Below w1.heap.size w1 w2 := HB.out.trans hb2
      have L2 := hid (L1.out.later hbX)
      have C16 := hid (union16 a1 k c1 V1 Q w2 L2.out hs1 hn1)
      have HV := hid hv
      have HO := hid hoa
      have HM := hid hom
      have HLO := hid hlo
      have HB2 := hid hbX
      clear hv hoa hom hlo hbX hb2
      go_wp2_with fail
      refine C16.out.mono ?_
      rintro e w3 ⟨v2, u, rfl, hv2, hua, hum, hul, hb3⟩
      obtain ⟨va, vc, hve, _, hvA, _⟩ := HV.out.later hb3
      obtain ⟨ua, uc, hue, _, huA, _⟩ := hv2
      have hlo := HLO.out
      have C15 := hid (equal15 va ua vc uc o.length u.length o u w3 hvA huA rfl rfl (by omega) (by omega))
      have heq : o = u := asc_eq HO.out hua (fun x => (HM.out x).trans (hum x).symm)
      have HE := hid heq
      have B3 : Hid (Below w.heap.size w w3) := hid (B1.out.trans ((HB2.out.trans (hb3.mono HB2.out.size)).mono B1.out.size))
      obtain ⟨ol, hol⟩ : ∃ ol, ol = o.length := ⟨_, rfl⟩
      obtain ⟨ul, hul⟩ : ∃ ul, ul = u.length := ⟨_, rfl⟩
      rw [← hol] at hve C15
      rw [← hul] at hue C15
      subst hve
      subst hue
      clear hua hum hb3 hvA huA heq hol hul hlo C16
      go_wp2_with fail
      refine C15.out.mono ?_
      rintro e w4 ⟨b, rfl, hb, q4, rfl⟩
      obtain rfl : b = true := hb.2 HE.out
      clear hb C15
      go_wp2_with fail
      go_ret
      exact ⟨rfl, belowN B3.out _⟩
end Go.Proofs.Qxb6600159a
