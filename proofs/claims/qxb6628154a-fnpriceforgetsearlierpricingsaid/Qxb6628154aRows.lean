/-
  No cell of these rows narrows 'for every input' (looked for: loops, veiled, ifaces, maps, wideKeys, modest, calm, conditions, laid).
  DERIVED. THE GIVEN ROWS OF THIS SEAT. 2 by the template 'for every input the law returns true; each argument reads behind the call as it read before'; 0 by the template 'total and deterministic' (their statements: Qxb6628154aTotals.lean).
  GIVEN WITH THE SEED: the statements are not yours to turn. If you find one false, say at which input.
  Laid BY PROGRAM, IN A SANDBOX (cutbox-rows.mjs): the forced cells as the released guide's own fill.sh prints them over the translation f6baa03c42c73182… (all of the seat's roots in one cut). By AI agents, Wed Nov 11 2026. No macro, syntax, notation, axiom, sorry.
-/
import Derived.Test.Qxb6628154aChecked
import GoSem.Claim
import GoSem.ClaimJoined
import GoSem.ClaimMapViews
import Derived.JoinedTies
import Derived.KernelRfl
namespace Go.Proofs.Qxb6628154a
/- THE CELL 'sum', in the pinned program and in every row, IS THE sha256 OF THE DUMP (.gsa) THAT Qxb6628154aProg.lean LOADS. Nothing in Lean hashes anything: it is a label: what it is worth is what the hold of that sum in a sandbox is worth. -/
noncomputable def Try.pinned : Pinned := { name := "qxb6628154a", sum := "f6baa03c42c73182ec8bd029b4959f34881a71d24f6d845c0e188d02190fc782", checked := Try.checked }
namespace Rows
def none {H : Type} : Left H := { results := [], args := [] }

/-- 'zzlaws_internal_llm_b1.FnPriceDoublingTokensDoublesEveryCost': WHATEVER THE INPUT: true; the input reads as it did. -/
def fnPriceDoublingTokensDoublesEveryCostSpec : ChangeSpec := { name := "fnPriceDoublingTokensDoublesEveryCost", fn := fun _ => fun
  | [d1, d2] => { results := [.lit (.bool true)], args := [d1, d2] }
  | _ => none }
def fnPriceDoublingTokensDoublesEveryCostRow : OpenClaim := { program := "qxb6628154a", sum := "f6baa03c42c73182ec8bd029b4959f34881a71d24f6d845c0e188d02190fc782", func := "example.com/wireline/wireline/zzlaws_internal_llm_b1.FnPriceDoublingTokensDoublesEveryCost", spec := "fnPriceDoublingTokensDoublesEveryCost", apart := false }
def FnPriceDoublingTokensDoublesEveryCostSaid : Prop := fnPriceDoublingTokensDoublesEveryCostRow.holds Try.pinned (OpenSpec.ofChange fnPriceDoublingTokensDoublesEveryCostSpec)

/-- ITS FALSE NEIGHBOUR: 'it returns false'. Refute it at one input. -/
def fnPriceDoublingTokensDoublesEveryCostWrong : ChangeSpec := { name := "fnPriceDoublingTokensDoublesEveryCost", fn := fun _ => fun
  | [d1, d2] => { results := [.lit (.bool false)], args := [d1, d2] }
  | _ => none }
def FnPriceDoublingTokensDoublesEveryCostWrongFalsely : Prop := fnPriceDoublingTokensDoublesEveryCostRow.holds Try.pinned (OpenSpec.ofChange fnPriceDoublingTokensDoublesEveryCostWrong)

/-- 'zzlaws_internal_llm_b1.FnPriceForgetsEarlierPricing': WHATEVER THE INPUT: true; the input reads as it did. -/
def fnPriceForgetsEarlierPricingSpec : ChangeSpec := { name := "fnPriceForgetsEarlierPricing", fn := fun _ => fun
  | [d1, d2, d3] => { results := [.lit (.bool true)], args := [d1, d2, d3] }
  | _ => none }
def fnPriceForgetsEarlierPricingRow : OpenClaim := { program := "qxb6628154a", sum := "f6baa03c42c73182ec8bd029b4959f34881a71d24f6d845c0e188d02190fc782", func := "example.com/wireline/wireline/zzlaws_internal_llm_b1.FnPriceForgetsEarlierPricing", spec := "fnPriceForgetsEarlierPricing", apart := false }
def FnPriceForgetsEarlierPricingSaid : Prop := fnPriceForgetsEarlierPricingRow.holds Try.pinned (OpenSpec.ofChange fnPriceForgetsEarlierPricingSpec)

/-- ITS FALSE NEIGHBOUR: 'it returns false'. Refute it at one input. -/
def fnPriceForgetsEarlierPricingWrong : ChangeSpec := { name := "fnPriceForgetsEarlierPricing", fn := fun _ => fun
  | [d1, d2, d3] => { results := [.lit (.bool false)], args := [d1, d2, d3] }
  | _ => none }
def FnPriceForgetsEarlierPricingWrongFalsely : Prop := fnPriceForgetsEarlierPricingRow.holds Try.pinned (OpenSpec.ofChange fnPriceForgetsEarlierPricingWrong)

end Rows
end Go.Proofs.Qxb6628154a
