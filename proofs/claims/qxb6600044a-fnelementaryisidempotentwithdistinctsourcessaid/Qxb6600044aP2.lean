/-! The plain mathematics of 'elementary': no Go in sight. -/
namespace Go.Proofs.Qxb6600044a

/-- One arc: from, to, key, kind. -/
structure Arc where
  f : Int
  t : Int
  k : Int
  d : Int

open Classical

/-- No two arcs have the same source. -/
def Dist (xs : List Arc) : Prop := ∀ (p q : Nat) (x y : Arc), p < q → xs[p]? = some x → xs[q]? = some y → x.f ≠ y.f

/-- What a shortening keeps. -/
structure Short (xs cs : List Arc) : Prop where
  count : ∀ a, cs.count a ≤ xs.count a
  nil : cs = [] ↔ xs = []
  same : Dist xs → cs = xs

theorem Short.refl (xs : List Arc) : Short xs xs := ⟨fun _ => Nat.le_refl _, Iff.rfl, fun _ => rfl⟩

theorem Short.undist {xs cs : List Arc} (h : Short xs cs) {p k : Nat} {x y : Arc} (hpk : p < k) (hx : cs[p]? = some x) (hy : cs[k]? = some y) (e : x.f = y.f) : ¬ Dist xs := by
  intro hd
  have := h.same hd
  subst this
  exact hd p k x y hpk hx hy e

theorem Short.inner {xs cs : List Arc} (h : Short xs cs) {p k : Nat} {x y : Arc} (hpk : p < k) (hx : cs[p]? = some x) (hy : cs[k]? = some y) (e : x.f = y.f) : Short xs ((cs.take k).drop p) := by
  have hk : k < cs.length := (List.getElem?_eq_some_iff.1 hy).1
  have hne : ¬ xs = [] := fun h0 => by have := h.nil.2 h0; subst this; simp at hk
  refine ⟨fun a => Nat.le_trans (((List.drop_sublist _ _).trans (List.take_sublist _ _)).count_le a) (h.count a), ⟨fun h0 => ?_, fun h0 => absurd h0 hne⟩, fun hd => absurd hd (h.undist hpk hx hy e)⟩
  have := congrArg List.length h0
  simp at this
  omega

theorem Short.outer {xs cs : List Arc} (h : Short xs cs) {p k : Nat} {x y : Arc} (hpk : p < k) (hx : cs[p]? = some x) (hy : cs[k]? = some y) (e : x.f = y.f) : Short xs (cs.drop k ++ cs.take p) := by
  have hk : k < cs.length := (List.getElem?_eq_some_iff.1 hy).1
  have hne : ¬ xs = [] := fun h0 => by have := h.nil.2 h0; subst this; simp at hk
  refine ⟨fun a => Nat.le_trans ?_ (h.count a), ⟨fun h0 => ?_, fun h0 => absurd h0 hne⟩, fun hd => absurd hd (h.undist hpk hx hy e)⟩
  · have e1 : cs.drop k = (cs.drop p).drop (k - p) := by rw [List.drop_drop]; congr 1; omega
    have e2 : (cs.take p).count a + (cs.drop p).count a = cs.count a := by rw [← List.count_append, List.take_append_drop]
    have e3 := (List.drop_sublist (k - p) (cs.drop p)).count_le a
    rw [List.count_append, e1]
    omega
  · have := congrArg List.length h0
    simp at this
    omega

end Go.Proofs.Qxb6600044a
