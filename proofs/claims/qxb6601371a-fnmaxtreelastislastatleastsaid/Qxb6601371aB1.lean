import Derived.Test.Qxb6601371aA2
namespace Go.Proofs.Qxb6601371a
open Go.RowKit
set_option linter.unusedVariables false

set_option maxRecDepth 100000 in
set_option maxHeartbeats 2000000 in
theorem law3 (L : Int) (a : Option Addr) (n c : Nat) (z : Nat → Int) (fr t bd : Int) (w : World) (hz : Arr w a n fun i => .int .i64 (z i)) :
    Calls Try.prog 3 #[.int .i64 L, .slice a n c, .int .i64 fr, .int .i64 t, .int .i64 bd] w (LawPost w) := by
  go_enter Try.func3, Try.ntmps3
  go_wp2_with fail
  refine (zz8 L a n c fr t bd w hz.1).mono ?_
  rintro e w1 ⟨b, rfl, hb, hw⟩
  obtain rfl := hw.symm
  cases b
  · go_wp2_with fail
    go_ret
    exact ⟨rfl, Below.refl _ _⟩
  have hn := hb rfl
  clear hb
  by_cases hn2 : 131072 < n
  · go_wp2_with fail
    go_ret
    exact ⟨rfl, Below.refl _ _⟩
  go_wp2_with fail
  refine (wf9 L a n c z w hz).mono ?_
  rintro e w1 ⟨b, rfl, hb, m, rfl⟩
  cases b
  · go_wp2_with fail
    go_ret
    exact ⟨rfl, belowN (Below.refl _ _) m⟩
  have hs := hb rfl
  have HS := hid hs
  clear hb
  by_cases hft : fr < t
  · by_cases ht : t < 1 ∨ L < t
    · clear hs
      rcases ht with ht | ht
      · go_wp2_with fail
        go_ret
        exact ⟨rfl, belowN (Below.refl _ _) m⟩
      · by_cases ht1 : t < 1
        · go_wp2_with fail
          go_ret
          exact ⟨rfl, belowN (Below.refl _ _) m⟩
        · go_wp2_with fail
          go_ret
          exact ⟨rfl, belowN (Below.refl _ _) m⟩
    · rcases hs with ⟨h0, _⟩ | ⟨p, hp, hp2, hnp, hh⟩
      · omega
      · obtain ⟨l, hl⟩ : ∃ l : Nat, l = 2 ^ p := ⟨_, rfl⟩
        rw [← hl] at hp hp2 hnp hh
        subst hp
        obtain ⟨tt, rfl⟩ : ∃ tt : Nat, t = tt := ⟨t.toNat, by omega⟩
        have h1 : 1 ≤ tt := by omega
        have h2 : tt ≤ l := by omega
        have HL := hid hl
        have HN := hid hnp
        have HH := hid hh
        clear hl hnp hh ht HS
        go_wp2_with fail
        refine (clone10 a n c z _ (hz.drewN m) (by omega)).mono ?_
        rintro e w2 ⟨a', c', rfl, k2, _, b2⟩
        have hnl : 1 ≤ n := by have := HN.out; omega
        obtain ⟨bb, oo, rfl, _⟩ := k2.at (k := 0) (by omega)
        go_wp2_with fail
        refine (zzlast11 l bb oo n c' z fr tt bd _ k2 p HL.out hp2 HN.out HH.out h1 h2 hft).mono ?_
        rintro e w3 ⟨r, rfl, hr, b3⟩
        have HR := hid hr
        clear hr
        go_wp2_with fail
        refine (lal12 l bb oo n c' z fr tt bd _ (k2.later b3) hp2 (by have := HN.out; omega) h1 h2 hft).mono ?_
        rintro e w4 ⟨⟨r', rfl, hr'⟩, hw⟩
        obtain rfl := hw.symm
        obtain rfl := isLast_unique HR.out hr'
        go_wp2_with fail
        go_ret
        have s2 := b2.size
        exact ⟨by simp, (belowN (Below.refl _ _) m).trans ((b2.mono (by simp)).trans (b3.mono (by simpa using s2)))⟩
  · clear hs
    go_wp2_with fail
    refine (clone10 a n c z _ (hz.drewN m) (by omega)).mono ?_
    rintro e w2 ⟨a', c', rfl, k2, _, b2⟩
    go_wp2_with fail
    refine (zzlast11_none L a' n c' fr t bd _ (by omega)).mono ?_
    rintro e w3 ⟨rfl, b3⟩
    go_wp2_with fail
    refine (lal12_none L a' n c' fr t bd _ (by omega)).mono ?_
    rintro e w4 ⟨rfl, hw⟩
    obtain rfl := hw.symm
    go_wp2_with fail
    go_ret
    have s2 := b2.size
    exact ⟨rfl, (belowN (Below.refl _ _) m).trans ((b2.mono (by simp)).trans (b3.mono (by simpa using s2)))⟩
end Go.Proofs.Qxb6601371a
