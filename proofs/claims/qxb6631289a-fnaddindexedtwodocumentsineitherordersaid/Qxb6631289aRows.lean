/-
  No cell of these rows narrows 'for every input' (looked for: loops, veiled, ifaces, maps, wideKeys, modest, calm, conditions, laid).
  DERIVED. THE GIVEN ROWS OF THIS SEAT. 2 by the template 'for every input the law returns true; each argument reads behind the call as it read before'; 0 by the template 'total and deterministic' (their statements: Qxb6631289aTotals.lean).
  GIVEN WITH THE SEED: the statements are not yours to turn. If you find one false, say at which input.
  Laid BY PROGRAM, IN A SANDBOX (cutbox-rows.mjs): the forced cells as the released guide's own fill.sh prints them over the translation a6da5db56c962431… (all of the seat's roots in one cut). By AI agents, Wed Nov 11 2026. No macro, syntax, notation, axiom, sorry.
-/
import Derived.Test.Qxb6631289aChecked
import GoSem.Claim
import GoSem.ClaimJoined
import GoSem.ClaimMapViews
import Derived.JoinedTies
import Derived.KernelRfl
namespace Go.Proofs.Qxb6631289a
/- THE CELL 'sum', in the pinned program and in every row, IS THE sha256 OF THE DUMP (.gsa) THAT Qxb6631289aProg.lean LOADS. Nothing in Lean hashes anything: it is a label: what it is worth is what the hold of that sum in a sandbox is worth. -/
noncomputable def Try.pinned : Pinned := { name := "qxb6631289a", sum := "a6da5db56c962431e1ca8fc2c4b5e15bedbc5c475ec7b85a557c5b0e3d73f51d", checked := Try.checked }
namespace Rows
def none {H : Type} : Left H := { results := [], args := [] }

/-- 'zzlaws_internal_fulltext_b1.FnAddIndexedCountsOneDocument': WHATEVER THE INPUT: true; the input reads as it did. -/
def fnAddIndexedCountsOneDocumentSpec : ChangeSpec := { name := "fnAddIndexedCountsOneDocument", fn := fun _ => fun
  | [d1, d2, d3, d4, d5] => { results := [.lit (.bool true)], args := [d1, d2, d3, d4, d5] }
  | _ => none }
def fnAddIndexedCountsOneDocumentRow : OpenClaim := { program := "qxb6631289a", sum := "a6da5db56c962431e1ca8fc2c4b5e15bedbc5c475ec7b85a557c5b0e3d73f51d", func := "example.com/lakebed/lakebed/zzlaws_internal_fulltext_b1.FnAddIndexedCountsOneDocument", spec := "fnAddIndexedCountsOneDocument", apart := false }
def FnAddIndexedCountsOneDocumentSaid : Prop := fnAddIndexedCountsOneDocumentRow.holds Try.pinned (OpenSpec.ofChange fnAddIndexedCountsOneDocumentSpec)

/-- ITS FALSE NEIGHBOUR: 'it returns false'. Refute it at one input. -/
def fnAddIndexedCountsOneDocumentWrong : ChangeSpec := { name := "fnAddIndexedCountsOneDocument", fn := fun _ => fun
  | [d1, d2, d3, d4, d5] => { results := [.lit (.bool false)], args := [d1, d2, d3, d4, d5] }
  | _ => none }
def FnAddIndexedCountsOneDocumentWrongFalsely : Prop := fnAddIndexedCountsOneDocumentRow.holds Try.pinned (OpenSpec.ofChange fnAddIndexedCountsOneDocumentWrong)

/-- 'zzlaws_internal_fulltext_b1.FnAddIndexedTwoDocumentsInEitherOrder': WHATEVER THE INPUT: true; the input reads as it did. -/
def fnAddIndexedTwoDocumentsInEitherOrderSpec : ChangeSpec := { name := "fnAddIndexedTwoDocumentsInEitherOrder", fn := fun _ => fun
  | [d1, d2, d3, d4, d5, d6, d7] => { results := [.lit (.bool true)], args := [d1, d2, d3, d4, d5, d6, d7] }
  | _ => none }
def fnAddIndexedTwoDocumentsInEitherOrderRow : OpenClaim := { program := "qxb6631289a", sum := "a6da5db56c962431e1ca8fc2c4b5e15bedbc5c475ec7b85a557c5b0e3d73f51d", func := "example.com/lakebed/lakebed/zzlaws_internal_fulltext_b1.FnAddIndexedTwoDocumentsInEitherOrder", spec := "fnAddIndexedTwoDocumentsInEitherOrder", apart := false }
def FnAddIndexedTwoDocumentsInEitherOrderSaid : Prop := fnAddIndexedTwoDocumentsInEitherOrderRow.holds Try.pinned (OpenSpec.ofChange fnAddIndexedTwoDocumentsInEitherOrderSpec)

/-- ITS FALSE NEIGHBOUR: 'it returns false'. Refute it at one input. -/
def fnAddIndexedTwoDocumentsInEitherOrderWrong : ChangeSpec := { name := "fnAddIndexedTwoDocumentsInEitherOrder", fn := fun _ => fun
  | [d1, d2, d3, d4, d5, d6, d7] => { results := [.lit (.bool false)], args := [d1, d2, d3, d4, d5, d6, d7] }
  | _ => none }
def FnAddIndexedTwoDocumentsInEitherOrderWrongFalsely : Prop := fnAddIndexedTwoDocumentsInEitherOrderRow.holds Try.pinned (OpenSpec.ofChange fnAddIndexedTwoDocumentsInEitherOrderWrong)

end Rows
end Go.Proofs.Qxb6631289a
