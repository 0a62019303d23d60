/-
  No cell of these rows narrows 'for every input' (looked for: loops, veiled, ifaces, maps, wideKeys, modest, calm, conditions, laid).
  DERIVED. THE GIVEN ROWS OF THIS SEAT. 2 by the template 'for every input the law returns true; each argument reads behind the call as it read before'; 0 by the template 'total and deterministic' (their statements: Qxb6632321aTotals.lean).
  GIVEN WITH THE SEED: the statements are not yours to turn. If you find one false, say at which input.
  Laid BY PROGRAM, IN A SANDBOX (cutbox-rows.mjs): the forced cells as the released guide's own fill.sh prints them over the translation 329e4e24634bc60b… (all of the seat's roots in one cut). By AI agents, Wed Nov 11 2026. No macro, syntax, notation, axiom, sorry.
-/
import Derived.Test.Qxb6632321aChecked
import GoSem.Claim
import GoSem.ClaimJoined
import GoSem.ClaimMapViews
import Derived.JoinedTies
import Derived.KernelRfl
namespace Go.Proofs.Qxb6632321a
/- THE CELL 'sum', in the pinned program and in every row, IS THE sha256 OF THE DUMP (.gsa) THAT Qxb6632321aProg.lean LOADS. Nothing in Lean hashes anything: it is a label: what it is worth is what the hold of that sum in a sandbox is worth. -/
noncomputable def Try.pinned : Pinned := { name := "qxb6632321a", sum := "329e4e24634bc60bec0fa71c1ce90ac4e275597c65162de6151f506a85e7c256", checked := Try.checked }
namespace Rows
def none {H : Type} : Left H := { results := [], args := [] }

/-- 'zzlaws_internal_jsonpointer_b1.FnContainsCommonPrefixCancels': WHATEVER THE INPUT: true; the input reads as it did. -/
def fnContainsCommonPrefixCancelsSpec : ChangeSpec := { name := "fnContainsCommonPrefixCancels", fn := fun _ => fun
  | [d1, d2, d3] => { results := [.lit (.bool true)], args := [d1, d2, d3] }
  | _ => none }
def fnContainsCommonPrefixCancelsRow : OpenClaim := { program := "qxb6632321a", sum := "329e4e24634bc60bec0fa71c1ce90ac4e275597c65162de6151f506a85e7c256", func := "example.com/moltwise/moltwise/zzlaws_internal_jsonpointer_b1.FnContainsCommonPrefixCancels", spec := "fnContainsCommonPrefixCancels", apart := false }
def FnContainsCommonPrefixCancelsSaid : Prop := fnContainsCommonPrefixCancelsRow.holds Try.pinned (OpenSpec.ofChange fnContainsCommonPrefixCancelsSpec)

/-- ITS FALSE NEIGHBOUR: 'it returns false'. Refute it at one input. -/
def fnContainsCommonPrefixCancelsWrong : ChangeSpec := { name := "fnContainsCommonPrefixCancels", fn := fun _ => fun
  | [d1, d2, d3] => { results := [.lit (.bool false)], args := [d1, d2, d3] }
  | _ => none }
def FnContainsCommonPrefixCancelsWrongFalsely : Prop := fnContainsCommonPrefixCancelsRow.holds Try.pinned (OpenSpec.ofChange fnContainsCommonPrefixCancelsWrong)

/-- 'zzlaws_internal_jsonpointer_b1.FnContainsPrefixOrder': WHATEVER THE INPUT: true; the input reads as it did. -/
def fnContainsPrefixOrderSpec : ChangeSpec := { name := "fnContainsPrefixOrder", fn := fun _ => fun
  | [d1, d2, d3] => { results := [.lit (.bool true)], args := [d1, d2, d3] }
  | _ => none }
def fnContainsPrefixOrderRow : OpenClaim := { program := "qxb6632321a", sum := "329e4e24634bc60bec0fa71c1ce90ac4e275597c65162de6151f506a85e7c256", func := "example.com/moltwise/moltwise/zzlaws_internal_jsonpointer_b1.FnContainsPrefixOrder", spec := "fnContainsPrefixOrder", apart := false }
def FnContainsPrefixOrderSaid : Prop := fnContainsPrefixOrderRow.holds Try.pinned (OpenSpec.ofChange fnContainsPrefixOrderSpec)

/-- ITS FALSE NEIGHBOUR: 'it returns false'. Refute it at one input. -/
def fnContainsPrefixOrderWrong : ChangeSpec := { name := "fnContainsPrefixOrder", fn := fun _ => fun
  | [d1, d2, d3] => { results := [.lit (.bool false)], args := [d1, d2, d3] }
  | _ => none }
def FnContainsPrefixOrderWrongFalsely : Prop := fnContainsPrefixOrderRow.holds Try.pinned (OpenSpec.ofChange fnContainsPrefixOrderWrong)

end Rows
end Go.Proofs.Qxb6632321a
