/-
  No cell of these rows narrows 'for every input' (looked for: loops, veiled, ifaces, maps, wideKeys, modest, calm, conditions, laid).
  DERIVED. THE GIVEN ROWS OF THIS SEAT. 5 by the template 'for every input the law returns true; each argument reads behind the call as it read before'; 0 by the template 'total and deterministic' (their statements: Qxb6600044aTotals.lean).
  GIVEN WITH THE SEED: the statements are not yours to turn. If you find one false, say at which input.
  Laid BY PROGRAM, IN A SANDBOX (cutbox-rows.mjs): the forced cells as the released guide's own fill.sh prints them over the translation 97241be4f6f17df8… (all of the seat's roots in one cut). By AI agents, Wed Nov 11 2026. No macro, syntax, notation, axiom, sorry.
-/
import Derived.Test.Qxb6600044aChecked
import GoSem.Claim
import GoSem.ClaimJoined
import GoSem.ClaimMapViews
import Derived.JoinedTies
import Derived.KernelRfl
namespace Go.Proofs.Qxb6600044a
/- THE CELL 'sum', in the pinned program and in every row, IS THE sha256 OF THE DUMP (.gsa) THAT Qxb6600044aProg.lean LOADS. Nothing in Lean hashes anything: it is a label: what it is worth is what the hold of that sum in a sandbox is worth. -/
noncomputable def Try.pinned : Pinned := { name := "qxb6600044a", sum := "97241be4f6f17df8bc312132306b1712ceb610da6614639629bb2550b0cf5fc9", checked := Try.checked }
namespace Rows
def none {H : Type} : Left H := { results := [], args := [] }

/-- 'zzlaws_listappend_b1.FnElementaryShortensToASimpleCycle': WHATEVER THE INPUT: true; the input reads as it did. -/
def fnElementaryShortensToASimpleCycleSpec : ChangeSpec := { name := "fnElementaryShortensToASimpleCycle", fn := fun _ => fun
  | [d] => { results := [.lit (.bool true)], args := [d] }
  | _ => none }
def fnElementaryShortensToASimpleCycleRow : OpenClaim := { program := "qxb6600044a", sum := "97241be4f6f17df8bc312132306b1712ceb610da6614639629bb2550b0cf5fc9", func := "example.com/faultline/faultline/zzlaws_listappend_b1.FnElementaryShortensToASimpleCycle", spec := "fnElementaryShortensToASimpleCycle", apart := false }
def FnElementaryShortensToASimpleCycleSaid : Prop := fnElementaryShortensToASimpleCycleRow.holds Try.pinned (OpenSpec.ofChange fnElementaryShortensToASimpleCycleSpec)

/-- ITS FALSE NEIGHBOUR: 'it returns false'. Refute it at one input. -/
def fnElementaryShortensToASimpleCycleWrong : ChangeSpec := { name := "fnElementaryShortensToASimpleCycle", fn := fun _ => fun
  | [d] => { results := [.lit (.bool false)], args := [d] }
  | _ => none }
def FnElementaryShortensToASimpleCycleWrongFalsely : Prop := fnElementaryShortensToASimpleCycleRow.holds Try.pinned (OpenSpec.ofChange fnElementaryShortensToASimpleCycleWrong)

/-- 'zzlaws_listappend_b1.FnElementaryIsIdempotentWithDistinctSources': WHATEVER THE INPUT: true; the input reads as it did. -/
def fnElementaryIsIdempotentWithDistinctSourcesSpec : ChangeSpec := { name := "fnElementaryIsIdempotentWithDistinctSources", fn := fun _ => fun
  | [d] => { results := [.lit (.bool true)], args := [d] }
  | _ => none }
def fnElementaryIsIdempotentWithDistinctSourcesRow : OpenClaim := { program := "qxb6600044a", sum := "97241be4f6f17df8bc312132306b1712ceb610da6614639629bb2550b0cf5fc9", func := "example.com/faultline/faultline/zzlaws_listappend_b1.FnElementaryIsIdempotentWithDistinctSources", spec := "fnElementaryIsIdempotentWithDistinctSources", apart := false }
def FnElementaryIsIdempotentWithDistinctSourcesSaid : Prop := fnElementaryIsIdempotentWithDistinctSourcesRow.holds Try.pinned (OpenSpec.ofChange fnElementaryIsIdempotentWithDistinctSourcesSpec)

/-- ITS FALSE NEIGHBOUR: 'it returns false'. Refute it at one input. -/
def fnElementaryIsIdempotentWithDistinctSourcesWrong : ChangeSpec := { name := "fnElementaryIsIdempotentWithDistinctSources", fn := fun _ => fun
  | [d] => { results := [.lit (.bool false)], args := [d] }
  | _ => none }
def FnElementaryIsIdempotentWithDistinctSourcesWrongFalsely : Prop := fnElementaryIsIdempotentWithDistinctSourcesRow.holds Try.pinned (OpenSpec.ofChange fnElementaryIsIdempotentWithDistinctSourcesWrong)

/-- 'zzlaws_listappend_b1.FnInternalVerdictGrowsWithOwn': WHATEVER THE INPUT: true; the input reads as it did. -/
def fnInternalVerdictGrowsWithOwnSpec : ChangeSpec := { name := "fnInternalVerdictGrowsWithOwn", fn := fun _ => fun
  | [d1, d2, d3, d4, d5, d6, d7] => { results := [.lit (.bool true)], args := [d1, d2, d3, d4, d5, d6, d7] }
  | _ => none }
def fnInternalVerdictGrowsWithOwnRow : OpenClaim := { program := "qxb6600044a", sum := "97241be4f6f17df8bc312132306b1712ceb610da6614639629bb2550b0cf5fc9", func := "example.com/faultline/faultline/zzlaws_listappend_b1.FnInternalVerdictGrowsWithOwn", spec := "fnInternalVerdictGrowsWithOwn", apart := false }
def FnInternalVerdictGrowsWithOwnSaid : Prop := fnInternalVerdictGrowsWithOwnRow.holds Try.pinned (OpenSpec.ofChange fnInternalVerdictGrowsWithOwnSpec)

/-- ITS FALSE NEIGHBOUR: 'it returns false'. Refute it at one input. -/
def fnInternalVerdictGrowsWithOwnWrong : ChangeSpec := { name := "fnInternalVerdictGrowsWithOwn", fn := fun _ => fun
  | [d1, d2, d3, d4, d5, d6, d7] => { results := [.lit (.bool false)], args := [d1, d2, d3, d4, d5, d6, d7] }
  | _ => none }
def FnInternalVerdictGrowsWithOwnWrongFalsely : Prop := fnInternalVerdictGrowsWithOwnRow.holds Try.pinned (OpenSpec.ofChange fnInternalVerdictGrowsWithOwnWrong)

/-- 'zzlaws_listappend_b1.FnInternalRefusesAnHonestReadExactlyForOwnInTheMiddle': WHATEVER THE INPUT: true; the input reads as it did. -/
def fnInternalRefusesAnHonestReadExactlyForOwnInTheMiddleSpec : ChangeSpec := { name := "fnInternalRefusesAnHonestReadExactlyForOwnInTheMiddle", fn := fun _ => fun
  | [d1, d2, d3, d4, d5, d6, d7] => { results := [.lit (.bool true)], args := [d1, d2, d3, d4, d5, d6, d7] }
  | _ => none }
def fnInternalRefusesAnHonestReadExactlyForOwnInTheMiddleRow : OpenClaim := { program := "qxb6600044a", sum := "97241be4f6f17df8bc312132306b1712ceb610da6614639629bb2550b0cf5fc9", func := "example.com/faultline/faultline/zzlaws_listappend_b1.FnInternalRefusesAnHonestReadExactlyForOwnInTheMiddle", spec := "fnInternalRefusesAnHonestReadExactlyForOwnInTheMiddle", apart := false }
def FnInternalRefusesAnHonestReadExactlyForOwnInTheMiddleSaid : Prop := fnInternalRefusesAnHonestReadExactlyForOwnInTheMiddleRow.holds Try.pinned (OpenSpec.ofChange fnInternalRefusesAnHonestReadExactlyForOwnInTheMiddleSpec)

/-- ITS FALSE NEIGHBOUR: 'it returns false'. Refute it at one input. -/
def fnInternalRefusesAnHonestReadExactlyForOwnInTheMiddleWrong : ChangeSpec := { name := "fnInternalRefusesAnHonestReadExactlyForOwnInTheMiddle", fn := fun _ => fun
  | [d1, d2, d3, d4, d5, d6, d7] => { results := [.lit (.bool false)], args := [d1, d2, d3, d4, d5, d6, d7] }
  | _ => none }
def FnInternalRefusesAnHonestReadExactlyForOwnInTheMiddleWrongFalsely : Prop := fnInternalRefusesAnHonestReadExactlyForOwnInTheMiddleRow.holds Try.pinned (OpenSpec.ofChange fnInternalRefusesAnHonestReadExactlyForOwnInTheMiddleWrong)

/-- 'zzlaws_listappend_b1.FnInternalRefusesADishonestRead': WHATEVER THE INPUT: true; the input reads as it did. -/
def fnInternalRefusesADishonestReadSpec : ChangeSpec := { name := "fnInternalRefusesADishonestRead", fn := fun _ => fun
  | [d1, d2, d3, d4, d5, d6, d7, d8, d9, d10, d11] => { results := [.lit (.bool true)], args := [d1, d2, d3, d4, d5, d6, d7, d8, d9, d10, d11] }
  | _ => none }
def fnInternalRefusesADishonestReadRow : OpenClaim := { program := "qxb6600044a", sum := "97241be4f6f17df8bc312132306b1712ceb610da6614639629bb2550b0cf5fc9", func := "example.com/faultline/faultline/zzlaws_listappend_b1.FnInternalRefusesADishonestRead", spec := "fnInternalRefusesADishonestRead", apart := false }
def FnInternalRefusesADishonestReadSaid : Prop := fnInternalRefusesADishonestReadRow.holds Try.pinned (OpenSpec.ofChange fnInternalRefusesADishonestReadSpec)

/-- ITS FALSE NEIGHBOUR: 'it returns false'. Refute it at one input. -/
def fnInternalRefusesADishonestReadWrong : ChangeSpec := { name := "fnInternalRefusesADishonestRead", fn := fun _ => fun
  | [d1, d2, d3, d4, d5, d6, d7, d8, d9, d10, d11] => { results := [.lit (.bool false)], args := [d1, d2, d3, d4, d5, d6, d7, d8, d9, d10, d11] }
  | _ => none }
def FnInternalRefusesADishonestReadWrongFalsely : Prop := fnInternalRefusesADishonestReadRow.holds Try.pinned (OpenSpec.ofChange fnInternalRefusesADishonestReadWrong)

end Rows
end Go.Proofs.Qxb6600044a
