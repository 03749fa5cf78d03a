/-
  No cell of these rows narrows 'for every input' (looked for: loops, veiled, ifaces, maps, wideKeys, modest, calm, conditions, laid).
  DERIVED. THE GIVEN ROWS OF THIS SEAT. 2 by the template 'for every input the law returns true; each argument reads behind the call as it read before'; 0 by the template 'total and deterministic' (their statements: Qxb6614439aTotals.lean).
  GIVEN WITH THE SEED: the statements are not yours to turn. If you find one false, say at which input.
  Laid BY PROGRAM, IN A SANDBOX (cutbox-rows.mjs): the forced cells as the released guide's own fill.sh prints them over the translation 0a616a4b41ecbbef… (all of the seat's roots in one cut). By AI agents, Wed Nov 11 2026. No macro, syntax, notation, axiom, sorry.
-/
import Derived.Test.Qxb6614439aChecked
import GoSem.Claim
import GoSem.ClaimJoined
import GoSem.ClaimMapViews
import Derived.JoinedTies
import Derived.KernelRfl
namespace Go.Proofs.Qxb6614439a
/- THE CELL 'sum', in the pinned program and in every row, IS THE sha256 OF THE DUMP (.gsa) THAT Qxb6614439aProg.lean LOADS. Nothing in Lean hashes anything: it is a label: what it is worth is what the hold of that sum in a sandbox is worth. -/
noncomputable def Try.pinned : Pinned := { name := "qxb6614439a", sum := "0a616a4b41ecbbef0f0fb0119838a3039169eee9280ebac7b0ef01781ed92a9e", checked := Try.checked }
namespace Rows
def none {H : Type} : Left H := { results := [], args := [] }

/-- 'zzlaws_internal_yamlparse_b1.FnInFlowMatchesPlainSafeRefusals': WHATEVER THE INPUT: true; the input reads as it did. -/
def fnInFlowMatchesPlainSafeRefusalsSpec : ChangeSpec := { name := "fnInFlowMatchesPlainSafeRefusals", fn := fun _ => fun
  | [d] => { results := [.lit (.bool true)], args := [d] }
  | _ => none }
def fnInFlowMatchesPlainSafeRefusalsRow : OpenClaim := { program := "qxb6614439a", sum := "0a616a4b41ecbbef0f0fb0119838a3039169eee9280ebac7b0ef01781ed92a9e", func := "example.com/geryon/geryon/zzlaws_internal_yamlparse_b1.FnInFlowMatchesPlainSafeRefusals", spec := "fnInFlowMatchesPlainSafeRefusals", apart := false }
def FnInFlowMatchesPlainSafeRefusalsSaid : Prop := fnInFlowMatchesPlainSafeRefusalsRow.holds Try.pinned (OpenSpec.ofChange fnInFlowMatchesPlainSafeRefusalsSpec)

/-- ITS FALSE NEIGHBOUR: 'it returns false'. Refute it at one input. -/
def fnInFlowMatchesPlainSafeRefusalsWrong : ChangeSpec := { name := "fnInFlowMatchesPlainSafeRefusals", fn := fun _ => fun
  | [d] => { results := [.lit (.bool false)], args := [d] }
  | _ => none }
def FnInFlowMatchesPlainSafeRefusalsWrongFalsely : Prop := fnInFlowMatchesPlainSafeRefusalsRow.holds Try.pinned (OpenSpec.ofChange fnInFlowMatchesPlainSafeRefusalsWrong)

/-- 'zzlaws_internal_yamlparse_b1.FnPlainSafeFlowOnlyNarrows': WHATEVER THE INPUT: true; the input reads as it did. -/
def fnPlainSafeFlowOnlyNarrowsSpec : ChangeSpec := { name := "fnPlainSafeFlowOnlyNarrows", fn := fun _ => fun
  | [d1, d2] => { results := [.lit (.bool true)], args := [d1, d2] }
  | _ => none }
def fnPlainSafeFlowOnlyNarrowsRow : OpenClaim := { program := "qxb6614439a", sum := "0a616a4b41ecbbef0f0fb0119838a3039169eee9280ebac7b0ef01781ed92a9e", func := "example.com/geryon/geryon/zzlaws_internal_yamlparse_b1.FnPlainSafeFlowOnlyNarrows", spec := "fnPlainSafeFlowOnlyNarrows", apart := false }
def FnPlainSafeFlowOnlyNarrowsSaid : Prop := fnPlainSafeFlowOnlyNarrowsRow.holds Try.pinned (OpenSpec.ofChange fnPlainSafeFlowOnlyNarrowsSpec)

/-- ITS FALSE NEIGHBOUR: 'it returns false'. Refute it at one input. -/
def fnPlainSafeFlowOnlyNarrowsWrong : ChangeSpec := { name := "fnPlainSafeFlowOnlyNarrows", fn := fun _ => fun
  | [d1, d2] => { results := [.lit (.bool false)], args := [d1, d2] }
  | _ => none }
def FnPlainSafeFlowOnlyNarrowsWrongFalsely : Prop := fnPlainSafeFlowOnlyNarrowsRow.holds Try.pinned (OpenSpec.ofChange fnPlainSafeFlowOnlyNarrowsWrong)

end Rows
end Go.Proofs.Qxb6614439a
