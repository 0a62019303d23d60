/-
  No cell of these rows narrows 'for every input' (looked for: loops, veiled, ifaces, maps, wideKeys, modest, calm, conditions, laid).
  DERIVED. THE GIVEN ROWS OF THIS SEAT. 2 by the template 'for every input the law returns true; each argument reads behind the call as it read before'; 0 by the template 'total and deterministic' (their statements: Qxb6632267aTotals.lean).
  GIVEN WITH THE SEED: the statements are not yours to turn. If you find one false, say at which input.
  Laid BY PROGRAM, IN A SANDBOX (cutbox-rows.mjs): the forced cells as the released guide's own fill.sh prints them over the translation a2b88b2681b25a12… (all of the seat's roots in one cut). By AI agents, Wed Nov 11 2026. No macro, syntax, notation, axiom, sorry.
-/
import Derived.Test.Qxb6632267aChecked
import GoSem.Claim
import GoSem.ClaimJoined
import GoSem.ClaimMapViews
import Derived.JoinedTies
import Derived.KernelRfl
namespace Go.Proofs.Qxb6632267a
/- THE CELL 'sum', in the pinned program and in every row, IS THE sha256 OF THE DUMP (.gsa) THAT Qxb6632267aProg.lean LOADS. Nothing in Lean hashes anything: it is a label: what it is worth is what the hold of that sum in a sandbox is worth. -/
noncomputable def Try.pinned : Pinned := { name := "qxb6632267a", sum := "a2b88b2681b25a128a2dda583ef1e6fe5c4921b0476974222d7d91d12c4f49eb", checked := Try.checked }
namespace Rows
def none {H : Type} : Left H := { results := [], args := [] }

/-- 'zzlaws_internal_protocol_b1.FnValidNameSplitsAtAnyCut': WHATEVER THE INPUT: true; the input reads as it did. -/
def fnValidNameSplitsAtAnyCutSpec : ChangeSpec := { name := "fnValidNameSplitsAtAnyCut", fn := fun _ => fun
  | [d1, d2] => { results := [.lit (.bool true)], args := [d1, d2] }
  | _ => none }
def fnValidNameSplitsAtAnyCutRow : OpenClaim := { program := "qxb6632267a", sum := "a2b88b2681b25a128a2dda583ef1e6fe5c4921b0476974222d7d91d12c4f49eb", func := "example.com/driftline/driftline/zzlaws_internal_protocol_b1.FnValidNameSplitsAtAnyCut", spec := "fnValidNameSplitsAtAnyCut", apart := false }
def FnValidNameSplitsAtAnyCutSaid : Prop := fnValidNameSplitsAtAnyCutRow.holds Try.pinned (OpenSpec.ofChange fnValidNameSplitsAtAnyCutSpec)

/-- ITS FALSE NEIGHBOUR: 'it returns false'. Refute it at one input. -/
def fnValidNameSplitsAtAnyCutWrong : ChangeSpec := { name := "fnValidNameSplitsAtAnyCut", fn := fun _ => fun
  | [d1, d2] => { results := [.lit (.bool false)], args := [d1, d2] }
  | _ => none }
def FnValidNameSplitsAtAnyCutWrongFalsely : Prop := fnValidNameSplitsAtAnyCutRow.holds Try.pinned (OpenSpec.ofChange fnValidNameSplitsAtAnyCutWrong)

/-- 'zzlaws_internal_protocol_b1.FnValidNameKeepsVerdictToFullWidth': WHATEVER THE INPUT: true; the input reads as it did. -/
def fnValidNameKeepsVerdictToFullWidthSpec : ChangeSpec := { name := "fnValidNameKeepsVerdictToFullWidth", fn := fun _ => fun
  | [d] => { results := [.lit (.bool true)], args := [d] }
  | _ => none }
def fnValidNameKeepsVerdictToFullWidthRow : OpenClaim := { program := "qxb6632267a", sum := "a2b88b2681b25a128a2dda583ef1e6fe5c4921b0476974222d7d91d12c4f49eb", func := "example.com/driftline/driftline/zzlaws_internal_protocol_b1.FnValidNameKeepsVerdictToFullWidth", spec := "fnValidNameKeepsVerdictToFullWidth", apart := false }
def FnValidNameKeepsVerdictToFullWidthSaid : Prop := fnValidNameKeepsVerdictToFullWidthRow.holds Try.pinned (OpenSpec.ofChange fnValidNameKeepsVerdictToFullWidthSpec)

/-- ITS FALSE NEIGHBOUR: 'it returns false'. Refute it at one input. -/
def fnValidNameKeepsVerdictToFullWidthWrong : ChangeSpec := { name := "fnValidNameKeepsVerdictToFullWidth", fn := fun _ => fun
  | [d] => { results := [.lit (.bool false)], args := [d] }
  | _ => none }
def FnValidNameKeepsVerdictToFullWidthWrongFalsely : Prop := fnValidNameKeepsVerdictToFullWidthRow.holds Try.pinned (OpenSpec.ofChange fnValidNameKeepsVerdictToFullWidthWrong)

end Rows
end Go.Proofs.Qxb6632267a
