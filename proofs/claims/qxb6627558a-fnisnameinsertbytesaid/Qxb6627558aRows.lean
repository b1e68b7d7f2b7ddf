/-
  No cell of these rows narrows 'for every input' (looked for: loops, veiled, ifaces, maps, wideKeys, modest, calm, conditions, laid).
  DERIVED. THE GIVEN ROWS OF THIS SEAT. 2 by the template 'for every input the law returns true; each argument reads behind the call as it read before'; 0 by the template 'total and deterministic' (their statements: Qxb6627558aTotals.lean).
  GIVEN WITH THE SEED: the statements are not yours to turn. If you find one false, say at which input.
  Laid BY PROGRAM, IN A SANDBOX (cutbox-rows.mjs): the forced cells as the released guide's own fill.sh prints them over the translation c65136c6a229d6cc… (all of the seat's roots in one cut). By AI agents, Wed Nov 11 2026. No macro, syntax, notation, axiom, sorry.
-/
import Derived.Test.Qxb6627558aChecked
import GoSem.Claim
import GoSem.ClaimJoined
import GoSem.ClaimMapViews
import Derived.JoinedTies
import Derived.KernelRfl
namespace Go.Proofs.Qxb6627558a
/- THE CELL 'sum', in the pinned program and in every row, IS THE sha256 OF THE DUMP (.gsa) THAT Qxb6627558aProg.lean LOADS. Nothing in Lean hashes anything: it is a label: what it is worth is what the hold of that sum in a sandbox is worth. -/
noncomputable def Try.pinned : Pinned := { name := "qxb6627558a", sum := "c65136c6a229d6cc1dfc452c402f2fccd55b0685420a6d2558238b4f89e8f24b", checked := Try.checked }
namespace Rows
def none {H : Type} : Left H := { results := [], args := [] }

/-- 'zzlaws_permission_b1.FnIsNameCountsAlphabet': WHATEVER THE INPUT: true; the input reads as it did. -/
def fnIsNameCountsAlphabetSpec : ChangeSpec := { name := "fnIsNameCountsAlphabet", fn := fun _ => fun
  | [d] => { results := [.lit (.bool true)], args := [d] }
  | _ => none }
def fnIsNameCountsAlphabetRow : OpenClaim := { program := "qxb6627558a", sum := "c65136c6a229d6cc1dfc452c402f2fccd55b0685420a6d2558238b4f89e8f24b", func := "example.com/mono-gate/mono-gate/zzlaws_permission_b1.FnIsNameCountsAlphabet", spec := "fnIsNameCountsAlphabet", apart := false }
def FnIsNameCountsAlphabetSaid : Prop := fnIsNameCountsAlphabetRow.holds Try.pinned (OpenSpec.ofChange fnIsNameCountsAlphabetSpec)

/-- ITS FALSE NEIGHBOUR: 'it returns false'. Refute it at one input. -/
def fnIsNameCountsAlphabetWrong : ChangeSpec := { name := "fnIsNameCountsAlphabet", fn := fun _ => fun
  | [d] => { results := [.lit (.bool false)], args := [d] }
  | _ => none }
def FnIsNameCountsAlphabetWrongFalsely : Prop := fnIsNameCountsAlphabetRow.holds Try.pinned (OpenSpec.ofChange fnIsNameCountsAlphabetWrong)

/-- 'zzlaws_permission_b1.FnIsNameInsertByte': WHATEVER THE INPUT: true; the input reads as it did. -/
def fnIsNameInsertByteSpec : ChangeSpec := { name := "fnIsNameInsertByte", fn := fun _ => fun
  | [d1, d2, d3] => { results := [.lit (.bool true)], args := [d1, d2, d3] }
  | _ => none }
def fnIsNameInsertByteRow : OpenClaim := { program := "qxb6627558a", sum := "c65136c6a229d6cc1dfc452c402f2fccd55b0685420a6d2558238b4f89e8f24b", func := "example.com/mono-gate/mono-gate/zzlaws_permission_b1.FnIsNameInsertByte", spec := "fnIsNameInsertByte", apart := false }
def FnIsNameInsertByteSaid : Prop := fnIsNameInsertByteRow.holds Try.pinned (OpenSpec.ofChange fnIsNameInsertByteSpec)

/-- ITS FALSE NEIGHBOUR: 'it returns false'. Refute it at one input. -/
def fnIsNameInsertByteWrong : ChangeSpec := { name := "fnIsNameInsertByte", fn := fun _ => fun
  | [d1, d2, d3] => { results := [.lit (.bool false)], args := [d1, d2, d3] }
  | _ => none }
def FnIsNameInsertByteWrongFalsely : Prop := fnIsNameInsertByteRow.holds Try.pinned (OpenSpec.ofChange fnIsNameInsertByteWrong)

end Rows
end Go.Proofs.Qxb6627558a
