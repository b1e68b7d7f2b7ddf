/-
  No cell of these rows narrows 'for every input' (looked for: loops, veiled, ifaces, maps, wideKeys, modest, calm, conditions, laid).
  DERIVED. THE GIVEN ROWS OF THIS SEAT. 2 by the template 'for every input the law returns true; each argument reads behind the call as it read before'; 0 by the template 'total and deterministic' (their statements: Qxb6628206aTotals.lean).
  GIVEN WITH THE SEED: the statements are not yours to turn. If you find one false, say at which input.
  Laid BY PROGRAM, IN A SANDBOX (cutbox-rows.mjs): the forced cells as the released guide's own fill.sh prints them over the translation e4c46f9c0ec593fe… (all of the seat's roots in one cut). By AI agents, Wed Nov 11 2026. No macro, syntax, notation, axiom, sorry.
-/
import Derived.Test.Qxb6628206aChecked
import GoSem.Claim
import GoSem.ClaimJoined
import GoSem.ClaimMapViews
import Derived.JoinedTies
import Derived.KernelRfl
namespace Go.Proofs.Qxb6628206a
/- THE CELL 'sum', in the pinned program and in every row, IS THE sha256 OF THE DUMP (.gsa) THAT Qxb6628206aProg.lean LOADS. Nothing in Lean hashes anything: it is a label: what it is worth is what the hold of that sum in a sandbox is worth. -/
noncomputable def Try.pinned : Pinned := { name := "qxb6628206a", sum := "e4c46f9c0ec593fe093dd6c43d175dce5dc5d710ec861ae1a671ecb828a2a62d", checked := Try.checked }
namespace Rows
def none {H : Type} : Left H := { results := [], args := [] }

/-- 'zzlaws_root_b1.FnSinceUndoesAdding': WHATEVER THE INPUT: true; the input reads as it did. -/
def fnSinceUndoesAddingSpec : ChangeSpec := { name := "fnSinceUndoesAdding", fn := fun _ => fun
  | [d1, d2] => { results := [.lit (.bool true)], args := [d1, d2] }
  | _ => none }
def fnSinceUndoesAddingRow : OpenClaim := { program := "qxb6628206a", sum := "e4c46f9c0ec593fe093dd6c43d175dce5dc5d710ec861ae1a671ecb828a2a62d", func := "example.com/interleave/interleave/zzlaws_root_b1.FnSinceUndoesAdding", spec := "fnSinceUndoesAdding", apart := false }
def FnSinceUndoesAddingSaid : Prop := fnSinceUndoesAddingRow.holds Try.pinned (OpenSpec.ofChange fnSinceUndoesAddingSpec)

/-- ITS FALSE NEIGHBOUR: 'it returns false'. Refute it at one input. -/
def fnSinceUndoesAddingWrong : ChangeSpec := { name := "fnSinceUndoesAdding", fn := fun _ => fun
  | [d1, d2] => { results := [.lit (.bool false)], args := [d1, d2] }
  | _ => none }
def FnSinceUndoesAddingWrongFalsely : Prop := fnSinceUndoesAddingRow.holds Try.pinned (OpenSpec.ofChange fnSinceUndoesAddingWrong)

/-- 'zzlaws_root_b1.FnSinceAddsOverConsecutiveIntervals': WHATEVER THE INPUT: true; the input reads as it did. -/
def fnSinceAddsOverConsecutiveIntervalsSpec : ChangeSpec := { name := "fnSinceAddsOverConsecutiveIntervals", fn := fun _ => fun
  | [d1, d2, d3] => { results := [.lit (.bool true)], args := [d1, d2, d3] }
  | _ => none }
def fnSinceAddsOverConsecutiveIntervalsRow : OpenClaim := { program := "qxb6628206a", sum := "e4c46f9c0ec593fe093dd6c43d175dce5dc5d710ec861ae1a671ecb828a2a62d", func := "example.com/interleave/interleave/zzlaws_root_b1.FnSinceAddsOverConsecutiveIntervals", spec := "fnSinceAddsOverConsecutiveIntervals", apart := false }
def FnSinceAddsOverConsecutiveIntervalsSaid : Prop := fnSinceAddsOverConsecutiveIntervalsRow.holds Try.pinned (OpenSpec.ofChange fnSinceAddsOverConsecutiveIntervalsSpec)

/-- ITS FALSE NEIGHBOUR: 'it returns false'. Refute it at one input. -/
def fnSinceAddsOverConsecutiveIntervalsWrong : ChangeSpec := { name := "fnSinceAddsOverConsecutiveIntervals", fn := fun _ => fun
  | [d1, d2, d3] => { results := [.lit (.bool false)], args := [d1, d2, d3] }
  | _ => none }
def FnSinceAddsOverConsecutiveIntervalsWrongFalsely : Prop := fnSinceAddsOverConsecutiveIntervalsRow.holds Try.pinned (OpenSpec.ofChange fnSinceAddsOverConsecutiveIntervalsWrong)

end Rows
end Go.Proofs.Qxb6628206a
