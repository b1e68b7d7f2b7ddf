/-
  No cell of these rows narrows 'for every input' (looked for: loops, veiled, ifaces, maps, wideKeys, modest, calm, conditions, laid).
  DERIVED. THE GIVEN ROWS OF THIS SEAT. 2 by the template 'for every input the law returns true; each argument reads behind the call as it read before'; 0 by the template 'total and deterministic' (their statements: Qxb6626094aTotals.lean).
  GIVEN WITH THE SEED: the statements are not yours to turn. If you find one false, say at which input.
  Laid BY PROGRAM, IN A SANDBOX (cutbox-rows.mjs): the forced cells as the released guide's own fill.sh prints them over the translation 493455ab69a8d34a… (all of the seat's roots in one cut). By AI agents, Wed Nov 11 2026. No macro, syntax, notation, axiom, sorry.
-/
import Derived.Test.Qxb6626094aChecked
import GoSem.Claim
import GoSem.ClaimJoined
import GoSem.ClaimMapViews
import Derived.JoinedTies
import Derived.KernelRfl
namespace Go.Proofs.Qxb6626094a
/- THE CELL 'sum', in the pinned program and in every row, IS THE sha256 OF THE DUMP (.gsa) THAT Qxb6626094aProg.lean LOADS. Nothing in Lean hashes anything: it is a label: what it is worth is what the hold of that sum in a sandbox is worth. -/
noncomputable def Try.pinned : Pinned := { name := "qxb6626094a", sum := "493455ab69a8d34a896bd09ce118cea0c66edcbd14496e96b5d307c2f9107dac", checked := Try.checked }
namespace Rows
def none {H : Type} : Left H := { results := [], args := [] }

/-- 'zzlaws_internal_protocol_b1.FnLengthEncodedStringModelAndTail': WHATEVER THE INPUT: true; the input reads as it did. -/
def fnLengthEncodedStringModelAndTailSpec : ChangeSpec := { name := "fnLengthEncodedStringModelAndTail", fn := fun _ => fun
  | [d1, d2] => { results := [.lit (.bool true)], args := [d1, d2] }
  | _ => none }
def fnLengthEncodedStringModelAndTailRow : OpenClaim := { program := "qxb6626094a", sum := "493455ab69a8d34a896bd09ce118cea0c66edcbd14496e96b5d307c2f9107dac", func := "example.com/keyspan/keyspan/zzlaws_internal_protocol_b1.FnLengthEncodedStringModelAndTail", spec := "fnLengthEncodedStringModelAndTail", apart := false }
def FnLengthEncodedStringModelAndTailSaid : Prop := fnLengthEncodedStringModelAndTailRow.holds Try.pinned (OpenSpec.ofChange fnLengthEncodedStringModelAndTailSpec)

/-- ITS FALSE NEIGHBOUR: 'it returns false'. Refute it at one input. -/
def fnLengthEncodedStringModelAndTailWrong : ChangeSpec := { name := "fnLengthEncodedStringModelAndTail", fn := fun _ => fun
  | [d1, d2] => { results := [.lit (.bool false)], args := [d1, d2] }
  | _ => none }
def FnLengthEncodedStringModelAndTailWrongFalsely : Prop := fnLengthEncodedStringModelAndTailRow.holds Try.pinned (OpenSpec.ofChange fnLengthEncodedStringModelAndTailWrong)

/-- 'zzlaws_internal_protocol_b1.FnLengthEncodedStringEncodedPayloadAndEveryCut': WHATEVER THE INPUT: true; the input reads as it did. -/
def fnLengthEncodedStringEncodedPayloadAndEveryCutSpec : ChangeSpec := { name := "fnLengthEncodedStringEncodedPayloadAndEveryCut", fn := fun _ => fun
  | [d1, d2, d3, d4] => { results := [.lit (.bool true)], args := [d1, d2, d3, d4] }
  | _ => none }
def fnLengthEncodedStringEncodedPayloadAndEveryCutRow : OpenClaim := { program := "qxb6626094a", sum := "493455ab69a8d34a896bd09ce118cea0c66edcbd14496e96b5d307c2f9107dac", func := "example.com/keyspan/keyspan/zzlaws_internal_protocol_b1.FnLengthEncodedStringEncodedPayloadAndEveryCut", spec := "fnLengthEncodedStringEncodedPayloadAndEveryCut", apart := false }
def FnLengthEncodedStringEncodedPayloadAndEveryCutSaid : Prop := fnLengthEncodedStringEncodedPayloadAndEveryCutRow.holds Try.pinned (OpenSpec.ofChange fnLengthEncodedStringEncodedPayloadAndEveryCutSpec)

/-- ITS FALSE NEIGHBOUR: 'it returns false'. Refute it at one input. -/
def fnLengthEncodedStringEncodedPayloadAndEveryCutWrong : ChangeSpec := { name := "fnLengthEncodedStringEncodedPayloadAndEveryCut", fn := fun _ => fun
  | [d1, d2, d3, d4] => { results := [.lit (.bool false)], args := [d1, d2, d3, d4] }
  | _ => none }
def FnLengthEncodedStringEncodedPayloadAndEveryCutWrongFalsely : Prop := fnLengthEncodedStringEncodedPayloadAndEveryCutRow.holds Try.pinned (OpenSpec.ofChange fnLengthEncodedStringEncodedPayloadAndEveryCutWrong)

end Rows
end Go.Proofs.Qxb6626094a
