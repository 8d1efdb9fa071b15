import Derived.Test.Qxb6600044aD1
import Derived.Test.Qxb6600044aA3
namespace Go.Proofs.Qxb6600044a
open Go.RowKit
set_option linter.unusedVariables false

theorem arcAt_some {xs : List Arc} {p : Nat} {x : Arc} (h : xs[p]? = some x) : arcAt xs p = x := by simp [arcAt, h]
theorem arcAt_get {xs : List Arc} {p : Nat} (h : p < xs.length) : xs[p]? = some (arcAt xs p) := by simp [arcAt, h]

/-- No two of the first n sources are the same. -/
def DistF (F : Nat → Int) (n : Nat) : Prop := ∀ p q, p < q → q < n → F p ≠ F q
theorem distF_iff (xs : List Arc) : DistF (fun i => (arcAt xs i).f) xs.length ↔ Dist xs := by
  constructor
  · intro h p q x y hpq hx hy
    have h1 := (List.getElem?_eq_some_iff.1 hy).1
    have := h p q hpq h1
    simp only [arcAt_some hx, arcAt_some hy] at this
    exact this
  · intro h p q hpq hq
    exact h p q _ _ hpq (arcAt_get (by omega)) (arcAt_get hq)

set_option maxHeartbeats 1000000 in
theorem distinct15 (a : Option Addr) (c n : Nat) (xs : List Arc) (w : World) (h : Arcs w a xs) (hx : xs.length = n) (hn : n ≤ 4096) :
    Calls Try.prog 15 #[.slice a n c] w (RetD w (DistF (fun i => (arcAt xs i).f) n)) := by
  have HX := hid hx
  clear hx
  go_enter Try.func15, Try.ntmps15
  go_wp2
  go_loopw [3, 4] (fun i _ wr => ∃ k : Nat, k ≤ n ∧ i = .int .i64 k ∧ Hid (∀ p q, p < k → p < q → q < n → (arcAt xs p).f ≠ (arcAt xs q).f) ∧ ∃ q, wr = w.drewN q) (fun i _ _ => n - (intOf i).toNat)
  case atStart => exact ⟨0, Nat.zero_le _, rfl, hid (fun p q hp => by omega), 0, rfl⟩
  case round =>
    obtain ⟨k, hk, rfl, HE, q, rfl⟩ := hrel
    by_cases hlt : k < n
    · go_wp2
      go_loopw [4] (fun i wr => ∃ l : Nat, k + 1 ≤ l ∧ l ≤ n ∧ i = .int .i64 l ∧ Hid (∀ q, k < q → q < l → (arcAt xs k).f ≠ (arcAt xs q).f) ∧ ∃ q, wr = w.drewN q) (fun i _ => n - (intOf i).toNat)
      case atStart => exact ⟨k + 1, Nat.le_refl _, by omega, by go_num, hid (fun q h1 h2 => by omega), q, rfl⟩
      case round =>
        obtain ⟨l, hl0, hl, rfl, HI, q2, rfl⟩ := hrel
        by_cases hl2 : l < n
        · obtain ⟨b, off, rfl, ck, _⟩ := h.at (k := k) (by rw [HX.out]; exact hlt)
          obtain ⟨b', off', e', cl, _⟩ := h.at (k := l) (by rw [HX.out]; exact hl2)
          simp only [Option.some.injEq, Addr.mk.injEq, and_true] at e'
          obtain ⟨rfl, rfl⟩ := e'
          have hki : (k : Int) < (n : Int) := by omega
          have hli : (l : Int) < (n : Int) := by omega
          by_cases hne : (arcAt xs k).f = (arcAt xs l).f
          · have hb : ((arcAt xs k).f == (arcAt xs l).f) = true := by simp [hne]
            have HN := hid hne
            clear hne
            go_wp2
            go_quiet (fail)
            go_wp2
            go_ret
            exact retDF (fun h => h k l (by omega) hl2 HN.out) ⟨_, World.drewN_drewN _ _ _⟩
          · have hb : ((arcAt xs k).f == (arcAt xs l).f) = false := by simp [hne]
            have HN := hid hne
            clear hne
            go_wp2
            go_quiet (fail)
            go_wp2
            go_roundw
            case rel =>
              refine ⟨l + 1, by omega, by omega, by go_num, hid (fun q h1 h2 => ?_), _, rfl⟩
              by_cases e : q = l
              · subst e; exact HN.out
              · exact HI.out q h1 (by omega)
            case measure => simp [intOf]; omega
        · go_wp2
          go_roundw
          case rel =>
            refine ⟨k + 1, by omega, by go_num, hid (fun p q h1 h2 h3 => ?_), _, rfl⟩
            by_cases e : p = k
            · subst e; exact HI.out q h2 (by omega)
            · exact HE.out p q (by omega) h2 h3
          case measure => simp [intOf]; omega
    · go_wp2
      go_ret
      exact retDT (fun p q h1 h2 => HE.out p q (by omega) h1 h2) ⟨_, rfl⟩
end Go.Proofs.Qxb6600044a
