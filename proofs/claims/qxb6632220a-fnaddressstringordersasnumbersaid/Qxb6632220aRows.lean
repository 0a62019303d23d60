/-
  No cell of these rows narrows 'for every input' (looked for: loops, veiled, ifaces, maps, wideKeys, modest, calm, conditions, laid).
  DERIVED. THE GIVEN ROWS OF THIS SEAT. 2 by the template 'for every input the law returns true; each argument reads behind the call as it read before'; 0 by the template 'total and deterministic' (their statements: Qxb6632220aTotals.lean).
  GIVEN WITH THE SEED: the statements are not yours to turn. If you find one false, say at which input.
  Laid BY PROGRAM, IN A SANDBOX (cutbox-rows.mjs): the forced cells as the released guide's own fill.sh prints them over the translation 3e35c0f418488692… (all of the seat's roots in one cut). By AI agents, Wed Nov 11 2026. No macro, syntax, notation, axiom, sorry.
-/
import Derived.Test.Qxb6632220aChecked
import GoSem.Claim
import GoSem.ClaimJoined
import GoSem.ClaimMapViews
import Derived.JoinedTies
import Derived.KernelRfl
namespace Go.Proofs.Qxb6632220a
/- THE CELL 'sum', in the pinned program and in every row, IS THE sha256 OF THE DUMP (.gsa) THAT Qxb6632220aProg.lean LOADS. Nothing in Lean hashes anything: it is a label: what it is worth is what the hold of that sum in a sandbox is worth. -/
noncomputable def Try.pinned : Pinned := { name := "qxb6632220a", sum := "3e35c0f41848869217781fbb01bb53e855ae7f6f66e6235033478bbdd1162cc1", checked := Try.checked }
namespace Rows
def none {H : Type} : Left H := { results := [], args := [] }

/-- 'zzlaws_root_b1.FnAddressStringDecodesBack': WHATEVER THE INPUT: true; the input reads as it did. -/
def fnAddressStringDecodesBackSpec : ChangeSpec := { name := "fnAddressStringDecodesBack", fn := fun _ => fun
  | [d] => { results := [.lit (.bool true)], args := [d] }
  | _ => none }
def fnAddressStringDecodesBackRow : OpenClaim := { program := "qxb6632220a", sum := "3e35c0f41848869217781fbb01bb53e855ae7f6f66e6235033478bbdd1162cc1", func := "example.com/accruant/accruant/zzlaws_root_b1.FnAddressStringDecodesBack", spec := "fnAddressStringDecodesBack", apart := false }
def FnAddressStringDecodesBackSaid : Prop := fnAddressStringDecodesBackRow.holds Try.pinned (OpenSpec.ofChange fnAddressStringDecodesBackSpec)

/-- ITS FALSE NEIGHBOUR: 'it returns false'. Refute it at one input. -/
def fnAddressStringDecodesBackWrong : ChangeSpec := { name := "fnAddressStringDecodesBack", fn := fun _ => fun
  | [d] => { results := [.lit (.bool false)], args := [d] }
  | _ => none }
def FnAddressStringDecodesBackWrongFalsely : Prop := fnAddressStringDecodesBackRow.holds Try.pinned (OpenSpec.ofChange fnAddressStringDecodesBackWrong)

/-- 'zzlaws_root_b1.FnAddressStringOrdersAsNumber': WHATEVER THE INPUT: true; the input reads as it did. -/
def fnAddressStringOrdersAsNumberSpec : ChangeSpec := { name := "fnAddressStringOrdersAsNumber", fn := fun _ => fun
  | [d1, d2] => { results := [.lit (.bool true)], args := [d1, d2] }
  | _ => none }
def fnAddressStringOrdersAsNumberRow : OpenClaim := { program := "qxb6632220a", sum := "3e35c0f41848869217781fbb01bb53e855ae7f6f66e6235033478bbdd1162cc1", func := "example.com/accruant/accruant/zzlaws_root_b1.FnAddressStringOrdersAsNumber", spec := "fnAddressStringOrdersAsNumber", apart := false }
def FnAddressStringOrdersAsNumberSaid : Prop := fnAddressStringOrdersAsNumberRow.holds Try.pinned (OpenSpec.ofChange fnAddressStringOrdersAsNumberSpec)

/-- ITS FALSE NEIGHBOUR: 'it returns false'. Refute it at one input. -/
def fnAddressStringOrdersAsNumberWrong : ChangeSpec := { name := "fnAddressStringOrdersAsNumber", fn := fun _ => fun
  | [d1, d2] => { results := [.lit (.bool false)], args := [d1, d2] }
  | _ => none }
def FnAddressStringOrdersAsNumberWrongFalsely : Prop := fnAddressStringOrdersAsNumberRow.holds Try.pinned (OpenSpec.ofChange fnAddressStringOrdersAsNumberWrong)

end Rows
end Go.Proofs.Qxb6632220a
