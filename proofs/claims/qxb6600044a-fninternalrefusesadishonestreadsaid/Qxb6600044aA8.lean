import Derived.Test.Qxb6600044aA7
namespace Go.Proofs.Qxb6600044a
open Go.RowKit
set_option linter.unusedVariables false

set_option maxRecDepth 100000 in
set_option maxHeartbeats 1000000 in
theorem newTxn28 (iv0 cp : Int) (am : Option Addr) (n cm : Nat) (w : World) :
    Calls Try.prog 28 #[.int .i64 iv0, .int .i64 cp, .slice am n cm] w fun e w' => e = .returned (.agg #[.int .i64 iv0, .int .i64 cp, .int .i64 0, .string ⟨#[]⟩, .slice am n cm]) ∧ Below w.heap.size w w' := by
  go_enter Try.func28, Try.ntmps28
  go_wp2
  exact bodyPost_ret (v := .agg #[.int .i64 iv0, .int .i64 cp, .int .i64 0, .string ⟨#[]⟩, .slice am n cm]) (by simp [results, Try.results28, go_sem]) rfl ⟨rfl, (Below.refl _ _).alloc (Nat.le_refl _) _⟩

set_option maxRecDepth 100000 in
set_option maxHeartbeats 1000000 in
theorem zeroAn34 (w : World) : Calls Try.prog 34 #[.agg anZ] w fun e w' => e = .returned (.bool true) ∧ Below w.heap.size w w' := by
  have q1 : ∀ (w : World) (a : Option Addr) (n c n' c' : Nat), (binOp .eql 32 (.slice a n c) (.slice none n' c')).run Try.prog w = .ok (.bool a.isNone) w := fun w a n c n' c' => Lib.run_eql_slice_nil w _ _ a n c n' c' Try.underlying32
  have q2 : ∀ (w : World) (a : Option Addr) (n c n' c' : Nat), (binOp .eql 54 (.slice a n c) (.slice none n' c')).run Try.prog w = .ok (.bool a.isNone) w := fun w a n c n' c' => Lib.run_eql_slice_nil w _ _ a n c n' c' Try.underlying54
  unfold anZ
  go_enter Try.func34, Try.ntmps34
  go_wp2
  go_ret
  exact ⟨rfl, (Below.refl _ _).alloc (Nat.le_refl _) _⟩

set_option maxRecDepth 100000 in
set_option maxHeartbeats 2000000 in
theorem zzInternal29 (iv0 cp pr : Int) (oc : ByteArray) (bm bp n cm cq : Nat) (K : Nat → Int) (R : Nat → Bool) (E : Nat → Int) (W : Nat → Value) (L : Nat → Nat) (Z : Nat → Nat → Int) (j : Nat) (ao : Option Addr) (no co : Nat) (O : Nat → Int) (w : World)
    (bl ll cl : Nat) (M : Mops w bm bp n K R E W L Z) (hO : Arr w ao no fun i => .int .i64 (O i)) (hj : j < n) (hn : n ≤ 65536) (hR : R j = true) (hWj : W j = .slice (some ⟨bl, 0, none⟩) ll cl) (hlc : ll ≤ cl) (hLj : L j = ll) (hll : ll ≤ 4000000) (hno : no ≤ 4000000)
    (bi : Option Nat) (S : List Int) (hf : fwd K R E (K j % 4) j = (bi, S)) (hbi : ∃ ab cb, befV W bi = .slice ab (befL L bi) cb) :
    Calls Try.prog 29 #[.agg #[.int .i64 iv0, .int .i64 cp, .int .i64 pr, .string oc, .slice (some ⟨bm, 0, none⟩) n cm], .slice (some ⟨bp, 0, none⟩) n cq, .int .i64 (j : Int), .slice ao no co] w
      (InternalPost w iv0 cp (K j) j (W j) ll (Z j) (befV W bi) (befL L bi) (befZ Z bi) S no O) := by
  have hst := inSt_start w iv0 cp pr oc bm n cm
  have HF := hid hf
  clear hf
  go_enter Try.func29, Try.ntmps29
  go_wp2_with fail
  rw [show (#[Value.string ⟨#[]⟩, .int .i64 0, .int .i64 0, .string ⟨#[]⟩, .int .i64 0, .int .i64 0, .int .i64 0, .int .i64 0, .slice none 0 0, .slice none 0 0, .slice none 0 0, .slice none 0 0, .slice none 0 0] : Array Value) = anZ from rfl]
  generalize hW1 : (w.alloc (.cells #[.int .i64 iv0, .int .i64 cp, .int .i64 pr, .string oc, .slice (some ⟨bm, 0, none⟩) n cm] 51)).alloc (.cells anZ 56) = w1 at hst ⊢
  clear hW1
  refine (internal45 iv0 cp pr oc bm bp n cm cq K R E W L Z j ao no co O w1 bl ll cl (M.later hst.below) (hO.later hst.below) hj hn hR hWj hlc hLj hll hno bi S HF.out).mono ?_
  rintro e w2 ⟨hb, h⟩
  have st2 := hst.later (hb.mono hst.size)
  rcases h with ⟨rfl, hz⟩ | ⟨vs, vo, rfl, hA, hS, hfin⟩
  · have HZ := hid hz
    have hres := st2.res
    have fz := resF hres
    have r0 := resC hres 0 _ rfl
    have r1 := resC hres 1 _ rfl
    have r2 := resC hres 2 _ rfl
    have r3 := resC hres 3 _ rfl
    have r4 := resC hres 4 _ rfl
    have r5 := resC hres 5 _ rfl
    have r6 := resC hres 6 _ rfl
    have r7 := resC hres 7 _ rfl
    have r8 := resC hres 8 _ rfl
    have r9 := resC hres 9 _ rfl
    have r10 := resC hres 10 _ rfl
    have r11 := resC hres 11 _ rfl
    have r12 := resC hres 12 _ rfl
    clear hres hz
    unfold anZ
    go_wp2_with fail
    have hh := put13_heap st2.res (.string ⟨#[]⟩) (.int .i64 0) (.int .i64 0) (.string ⟨#[]⟩) (.int .i64 0) (.int .i64 0) (.int .i64 0) (.int .i64 0) (.slice none 0 0) (.slice none 0 0) (.slice none 0 0) (.slice none 0 0) (.slice none 0 0)
    have hbb := put13_below st2.below (Nat.le_succ _) (.string ⟨#[]⟩) (.int .i64 0) (.int .i64 0) (.string ⟨#[]⟩) (.int .i64 0) (.int .i64 0) (.int .i64 0) (.int .i64 0) (.slice none 0 0) (.slice none 0 0) (.slice none 0 0) (.slice none 0 0) (.slice none 0 0)
    generalize hT : ((((((((((((w2.setCell ⟨w.heap.size + 1, 0, none⟩ (.string ⟨#[]⟩)).setCell ⟨w.heap.size + 1, 1, none⟩ (.int .i64 0)).setCell ⟨w.heap.size + 1, 2, none⟩ (.int .i64 0)).setCell ⟨w.heap.size + 1, 3, none⟩ (.string ⟨#[]⟩)).setCell ⟨w.heap.size + 1, 4, none⟩ (.int .i64 0)).setCell ⟨w.heap.size + 1, 5, none⟩ (.int .i64 0)).setCell ⟨w.heap.size + 1, 6, none⟩ (.int .i64 0)).setCell ⟨w.heap.size + 1, 7, none⟩ (.int .i64 0)).setCell ⟨w.heap.size + 1, 8, none⟩ (.slice none 0 0)).setCell ⟨w.heap.size + 1, 9, none⟩ (.slice none 0 0)).setCell ⟨w.heap.size + 1, 10, none⟩ (.slice none 0 0)).setCell ⟨w.heap.size + 1, 11, none⟩ (.slice none 0 0)).setCell ⟨w.heap.size + 1, 12, none⟩ (.slice none 0 0) = w3 at hh hbb ⊢
    obtain ⟨q0, q1, q2, q3, q4, q5, q6, q7, q8, q9, q10, q11, q12⟩ := read13 hh
    refine bodyPost_ret (v := .tuple #[.agg anZ, .bool false]) (by simp [results, Try.results29, go_sem, anZ, q0, q1, q2, q3, q4, q5, q6, q7, q8, q9, q10, q11, q12]) rfl ?_
    exact ⟨hbb, .inl ⟨rfl, HZ.out⟩⟩
  · obtain ⟨ab, cb, hvb⟩ := hbi
    obtain ⟨xa, xn, xc, hvo⟩ : ∃ xa xn xc, vo = .slice xa xn xc := by
      rcases hfin with ⟨_, _, a, c, e, _⟩ | ⟨_, e⟩
      · exact ⟨_, _, _, e⟩
      · exact ⟨_, _, _, e⟩
    obtain ⟨va, vc, hvs, hSA, hSF⟩ := hS
    rw [hvs, hvo, hvb, hWj]
    have HVB := hid hvb
    have HVO := hid hvo
    have HFIN := hid hfin
    have HA := hid hA
    have hres := st2.res
    have fz := resF hres
    have r0 := resC hres 0 _ rfl
    have r1 := resC hres 1 _ rfl
    have r2 := resC hres 2 _ rfl
    have r3 := resC hres 3 _ rfl
    have r4 := resC hres 4 _ rfl
    have r5 := resC hres 5 _ rfl
    have r6 := resC hres 6 _ rfl
    have r7 := resC hres 7 _ rfl
    have r8 := resC hres 8 _ rfl
    have r9 := resC hres 9 _ rfl
    have r10 := resC hres 10 _ rfl
    have r11 := resC hres 11 _ rfl
    have r12 := resC hres 12 _ rfl
    clear hres hfin hvs hvo hvb hA
    go_wp2_with fail
    have hh := put13_heap st2.res (.string intStr) (.int .i64 iv0) (.int .i64 cp) (.string (keyStr (K j))) (.int .i64 0) (.int .i64 0) (.int .i64 0) (.int .i64 (j : Int)) (.slice (some ⟨bl, 0, none⟩) ll cl) (.slice ab (befL L bi) cb) (.slice va S.length vc) (.slice xa xn xc) (.slice none 0 0)
    have hbb := put13_below st2.below (Nat.le_succ _) (.string intStr) (.int .i64 iv0) (.int .i64 cp) (.string (keyStr (K j))) (.int .i64 0) (.int .i64 0) (.int .i64 0) (.int .i64 (j : Int)) (.slice (some ⟨bl, 0, none⟩) ll cl) (.slice ab (befL L bi) cb) (.slice va S.length vc) (.slice xa xn xc) (.slice none 0 0)
    have hpa := fun a n f (h : Arr w2 a n f) (ha : AddrFrom (w.heap.size + 1 + 1) a) => put13_arr h ha (.string intStr) (.int .i64 iv0) (.int .i64 cp) (.string (keyStr (K j))) (.int .i64 0) (.int .i64 0) (.int .i64 0) (.int .i64 (j : Int)) (.slice (some ⟨bl, 0, none⟩) ll cl) (.slice ab (befL L bi) cb) (.slice va S.length vc) (.slice xa xn xc) (.slice none 0 0)
    generalize hT : ((((((((((((w2.setCell ⟨w.heap.size + 1, 0, none⟩ (.string intStr)).setCell ⟨w.heap.size + 1, 1, none⟩ (.int .i64 iv0)).setCell ⟨w.heap.size + 1, 2, none⟩ (.int .i64 cp)).setCell ⟨w.heap.size + 1, 3, none⟩ (.string (keyStr (K j)))).setCell ⟨w.heap.size + 1, 4, none⟩ (.int .i64 0)).setCell ⟨w.heap.size + 1, 5, none⟩ (.int .i64 0)).setCell ⟨w.heap.size + 1, 6, none⟩ (.int .i64 0)).setCell ⟨w.heap.size + 1, 7, none⟩ (.int .i64 (j : Int))).setCell ⟨w.heap.size + 1, 8, none⟩ (.slice (some ⟨bl, 0, none⟩) ll cl)).setCell ⟨w.heap.size + 1, 9, none⟩ (.slice ab (befL L bi) cb)).setCell ⟨w.heap.size + 1, 10, none⟩ (.slice va S.length vc)).setCell ⟨w.heap.size + 1, 11, none⟩ (.slice xa xn xc)).setCell ⟨w.heap.size + 1, 12, none⟩ (.slice none 0 0) = w3 at hh hbb hpa ⊢
    obtain ⟨q0, q1, q2, q3, q4, q5, q6, q7, q8, q9, q10, q11, q12⟩ := read13 hh
    refine bodyPost_ret (v := .tuple #[.agg #[.string intStr, .int .i64 iv0, .int .i64 cp, .string (keyStr (K j)), .int .i64 0, .int .i64 0, .int .i64 0, .int .i64 (j : Int), .slice (some ⟨bl, 0, none⟩) ll cl, .slice ab (befL L bi) cb, .slice va S.length vc, .slice xa xn xc, .slice none 0 0], .bool true]) (by simp [results, Try.results29, go_sem, q0, q1, q2, q3, q4, q5, q6, q7, q8, q9, q10, q11, q12]) rfl ?_
    have hs1 := hst.size
    have iS : Ints w.heap.size w3 (.slice va S.length vc) S.length (fun i => S.getD i 0) := ⟨va, vc, rfl, hpa _ _ _ hSA (hSF.mono hs1), hSF.mono (by omega)⟩
    rw [HVB.out, hWj]
    refine ⟨hbb, .inr ⟨_, _, rfl, HA.out, iS, ?_⟩⟩
    have hvo := HVO.out
    rcases HFIN.out with ⟨f1, f2, ya, yc, hy, hyA, hyF⟩ | ⟨f1, f2⟩
    · refine .inl ⟨f1, f2, ?_⟩
      rw [hvo] at hy
      rw [hy]
      exact ⟨ya, yc, rfl, hpa _ _ _ hyA (hyF.mono hs1), hyF.mono (by omega)⟩
    · exact .inr ⟨f1, by rw [← hvo, f2]⟩
end Go.Proofs.Qxb6600044a
