/-
  No cell of these rows narrows 'for every input' (looked for: loops, veiled, ifaces, maps, wideKeys, modest, calm, conditions, laid).
  DERIVED. THE GIVEN ROWS OF THIS SEAT. 5 by the template 'for every input the law returns true; each argument reads behind the call as it read before'; 0 by the template 'total and deterministic' (their statements: Qxb6601371aTotals.lean).
  GIVEN WITH THE SEED: the statements are not yours to turn. If you find one false, say at which input.
  Laid BY PROGRAM, IN A SANDBOX (cutbox-rows.mjs): the forced cells as the released guide's own fill.sh prints them over the translation 8478bf788a78b1e7… (all of the seat's roots in one cut). By AI agents, Wed Nov 11 2026. No macro, syntax, notation, axiom, sorry.
-/
import Derived.Test.Qxb6601371aChecked
import GoSem.Claim
import GoSem.ClaimJoined
import GoSem.ClaimMapViews
import Derived.JoinedTies
import Derived.KernelRfl
namespace Go.Proofs.Qxb6601371a
/- THE CELL 'sum', in the pinned program and in every row, IS THE sha256 OF THE DUMP (.gsa) THAT Qxb6601371aProg.lean LOADS. Nothing in Lean hashes anything: it is a label: what it is worth is what the hold of that sum in a sandbox is worth. -/
noncomputable def Try.pinned : Pinned := { name := "qxb6601371a", sum := "8478bf788a78b1e79648047f107fe21cf9f6f8fe3962f93a5dd34e50d298a7eb", checked := Try.checked }
namespace Rows
def none {H : Type} : Left H := { results := [], args := [] }

/-- 'zzlaws_internal_history_b1.FnMaxTreeLastIsLastAtLeast': WHATEVER THE INPUT: true; the input reads as it did. -/
def fnMaxTreeLastIsLastAtLeastSpec : ChangeSpec := { name := "fnMaxTreeLastIsLastAtLeast", fn := fun _ => fun
  | [d1, d2, d3, d4, d5] => { results := [.lit (.bool true)], args := [d1, d2, d3, d4, d5] }
  | _ => none }
def fnMaxTreeLastIsLastAtLeastRow : OpenClaim := { program := "qxb6601371a", sum := "8478bf788a78b1e79648047f107fe21cf9f6f8fe3962f93a5dd34e50d298a7eb", func := "example.com/quorumtide/quorumtide/zzlaws_internal_history_b1.FnMaxTreeLastIsLastAtLeast", spec := "fnMaxTreeLastIsLastAtLeast", apart := false }
def FnMaxTreeLastIsLastAtLeastSaid : Prop := fnMaxTreeLastIsLastAtLeastRow.holds Try.pinned (OpenSpec.ofChange fnMaxTreeLastIsLastAtLeastSpec)

/-- ITS FALSE NEIGHBOUR: 'it returns false'. Refute it at one input. -/
def fnMaxTreeLastIsLastAtLeastWrong : ChangeSpec := { name := "fnMaxTreeLastIsLastAtLeast", fn := fun _ => fun
  | [d1, d2, d3, d4, d5] => { results := [.lit (.bool false)], args := [d1, d2, d3, d4, d5] }
  | _ => none }
def FnMaxTreeLastIsLastAtLeastWrongFalsely : Prop := fnMaxTreeLastIsLastAtLeastRow.holds Try.pinned (OpenSpec.ofChange fnMaxTreeLastIsLastAtLeastWrong)

/-- 'zzlaws_internal_history_b1.FnMaxTreeLastSplitsAtAnyPoint': WHATEVER THE INPUT: true; the input reads as it did. -/
def fnMaxTreeLastSplitsAtAnyPointSpec : ChangeSpec := { name := "fnMaxTreeLastSplitsAtAnyPoint", fn := fun _ => fun
  | [d1, d2, d3, d4, d5, d6] => { results := [.lit (.bool true)], args := [d1, d2, d3, d4, d5, d6] }
  | _ => none }
def fnMaxTreeLastSplitsAtAnyPointRow : OpenClaim := { program := "qxb6601371a", sum := "8478bf788a78b1e79648047f107fe21cf9f6f8fe3962f93a5dd34e50d298a7eb", func := "example.com/quorumtide/quorumtide/zzlaws_internal_history_b1.FnMaxTreeLastSplitsAtAnyPoint", spec := "fnMaxTreeLastSplitsAtAnyPoint", apart := false }
def FnMaxTreeLastSplitsAtAnyPointSaid : Prop := fnMaxTreeLastSplitsAtAnyPointRow.holds Try.pinned (OpenSpec.ofChange fnMaxTreeLastSplitsAtAnyPointSpec)

/-- ITS FALSE NEIGHBOUR: 'it returns false'. Refute it at one input. -/
def fnMaxTreeLastSplitsAtAnyPointWrong : ChangeSpec := { name := "fnMaxTreeLastSplitsAtAnyPoint", fn := fun _ => fun
  | [d1, d2, d3, d4, d5, d6] => { results := [.lit (.bool false)], args := [d1, d2, d3, d4, d5, d6] }
  | _ => none }
def FnMaxTreeLastSplitsAtAnyPointWrongFalsely : Prop := fnMaxTreeLastSplitsAtAnyPointRow.holds Try.pinned (OpenSpec.ofChange fnMaxTreeLastSplitsAtAnyPointWrong)

/-- 'zzlaws_internal_history_b1.FnAssignmentNextDrainsInOrder': WHATEVER THE INPUT: true; the input reads as it did. -/
def fnAssignmentNextDrainsInOrderSpec : ChangeSpec := { name := "fnAssignmentNextDrainsInOrder", fn := fun _ => fun
  | [d1, d2, d3, d4, d5, d6, d7] => { results := [.lit (.bool true)], args := [d1, d2, d3, d4, d5, d6, d7] }
  | _ => none }
def fnAssignmentNextDrainsInOrderRow : OpenClaim := { program := "qxb6601371a", sum := "8478bf788a78b1e79648047f107fe21cf9f6f8fe3962f93a5dd34e50d298a7eb", func := "example.com/quorumtide/quorumtide/zzlaws_internal_history_b1.FnAssignmentNextDrainsInOrder", spec := "fnAssignmentNextDrainsInOrder", apart := false }
def FnAssignmentNextDrainsInOrderSaid : Prop := fnAssignmentNextDrainsInOrderRow.holds Try.pinned (OpenSpec.ofChange fnAssignmentNextDrainsInOrderSpec)

/-- ITS FALSE NEIGHBOUR: 'it returns false'. Refute it at one input. -/
def fnAssignmentNextDrainsInOrderWrong : ChangeSpec := { name := "fnAssignmentNextDrainsInOrder", fn := fun _ => fun
  | [d1, d2, d3, d4, d5, d6, d7] => { results := [.lit (.bool false)], args := [d1, d2, d3, d4, d5, d6, d7] }
  | _ => none }
def FnAssignmentNextDrainsInOrderWrongFalsely : Prop := fnAssignmentNextDrainsInOrderRow.holds Try.pinned (OpenSpec.ofChange fnAssignmentNextDrainsInOrderWrong)

/-- 'zzlaws_internal_history_b1.FnAssignmentCoversExact': WHATEVER THE INPUT: true; the input reads as it did. -/
def fnAssignmentCoversExactSpec : ChangeSpec := { name := "fnAssignmentCoversExact", fn := fun _ => fun
  | [d1, d2, d3, d4, d5, d6] => { results := [.lit (.bool true)], args := [d1, d2, d3, d4, d5, d6] }
  | _ => none }
def fnAssignmentCoversExactRow : OpenClaim := { program := "qxb6601371a", sum := "8478bf788a78b1e79648047f107fe21cf9f6f8fe3962f93a5dd34e50d298a7eb", func := "example.com/quorumtide/quorumtide/zzlaws_internal_history_b1.FnAssignmentCoversExact", spec := "fnAssignmentCoversExact", apart := false }
def FnAssignmentCoversExactSaid : Prop := fnAssignmentCoversExactRow.holds Try.pinned (OpenSpec.ofChange fnAssignmentCoversExactSpec)

/-- ITS FALSE NEIGHBOUR: 'it returns false'. Refute it at one input. -/
def fnAssignmentCoversExactWrong : ChangeSpec := { name := "fnAssignmentCoversExact", fn := fun _ => fun
  | [d1, d2, d3, d4, d5, d6] => { results := [.lit (.bool false)], args := [d1, d2, d3, d4, d5, d6] }
  | _ => none }
def FnAssignmentCoversExactWrongFalsely : Prop := fnAssignmentCoversExactRow.holds Try.pinned (OpenSpec.ofChange fnAssignmentCoversExactWrong)

/-- 'zzlaws_internal_history_b1.FnAssignmentCoversWiderRead': WHATEVER THE INPUT: true; the input reads as it did. -/
def fnAssignmentCoversWiderReadSpec : ChangeSpec := { name := "fnAssignmentCoversWiderRead", fn := fun _ => fun
  | [d1, d2, d3, d4, d5, d6, d7] => { results := [.lit (.bool true)], args := [d1, d2, d3, d4, d5, d6, d7] }
  | _ => none }
def fnAssignmentCoversWiderReadRow : OpenClaim := { program := "qxb6601371a", sum := "8478bf788a78b1e79648047f107fe21cf9f6f8fe3962f93a5dd34e50d298a7eb", func := "example.com/quorumtide/quorumtide/zzlaws_internal_history_b1.FnAssignmentCoversWiderRead", spec := "fnAssignmentCoversWiderRead", apart := false }
def FnAssignmentCoversWiderReadSaid : Prop := fnAssignmentCoversWiderReadRow.holds Try.pinned (OpenSpec.ofChange fnAssignmentCoversWiderReadSpec)

/-- ITS FALSE NEIGHBOUR: 'it returns false'. Refute it at one input. -/
def fnAssignmentCoversWiderReadWrong : ChangeSpec := { name := "fnAssignmentCoversWiderRead", fn := fun _ => fun
  | [d1, d2, d3, d4, d5, d6, d7] => { results := [.lit (.bool false)], args := [d1, d2, d3, d4, d5, d6, d7] }
  | _ => none }
def FnAssignmentCoversWiderReadWrongFalsely : Prop := fnAssignmentCoversWiderReadRow.holds Try.pinned (OpenSpec.ofChange fnAssignmentCoversWiderReadWrong)

end Rows
end Go.Proofs.Qxb6601371a
