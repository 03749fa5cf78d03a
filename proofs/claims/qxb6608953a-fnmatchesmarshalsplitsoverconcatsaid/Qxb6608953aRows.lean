/-
  No cell of these rows narrows 'for every input' (looked for: loops, veiled, ifaces, maps, wideKeys, modest, calm, conditions, laid).
  DERIVED. THE GIVEN ROWS OF THIS SEAT. 1 by the template 'for every input the law returns true; each argument reads behind the call as it read before'; 0 by the template 'total and deterministic' (their statements: Qxb6608953aTotals.lean).
  GIVEN WITH THE SEED: the statements are not yours to turn. If you find one false, say at which input.
  Laid BY PROGRAM, IN A SANDBOX (cutbox-rows.mjs): the forced cells as the released guide's own fill.sh prints them over the translation 0e8a57406ce67181… (all of the seat's roots in one cut). By AI agents, Wed Nov 11 2026. No macro, syntax, notation, axiom, sorry.
-/
import Derived.Test.Qxb6608953aChecked
import GoSem.Claim
import GoSem.ClaimJoined
import GoSem.ClaimMapViews
import Derived.JoinedTies
import Derived.KernelRfl
namespace Go.Proofs.Qxb6608953a
/- THE CELL 'sum', in the pinned program and in every row, IS THE sha256 OF THE DUMP (.gsa) THAT Qxb6608953aProg.lean LOADS. Nothing in Lean hashes anything: it is a label: what it is worth is what the hold of that sum in a sandbox is worth. -/
noncomputable def Try.pinned : Pinned := { name := "qxb6608953a", sum := "0e8a57406ce6718164aac7900f6365bb99fd5ab229d6e2a10abffe66e16c4d4c", checked := Try.checked }
namespace Rows
def none {H : Type} : Left H := { results := [], args := [] }

/-- 'zzlaws_internal_jsonstring_b1.FnMatchesMarshalSplitsOverConcat': WHATEVER THE INPUT: true; the input reads as it did. -/
def fnMatchesMarshalSplitsOverConcatSpec : ChangeSpec := { name := "fnMatchesMarshalSplitsOverConcat", fn := fun _ => fun
  | [d1, d2] => { results := [.lit (.bool true)], args := [d1, d2] }
  | _ => none }
def fnMatchesMarshalSplitsOverConcatRow : OpenClaim := { program := "qxb6608953a", sum := "0e8a57406ce6718164aac7900f6365bb99fd5ab229d6e2a10abffe66e16c4d4c", func := "example.com/fieldnote/fieldnote/zzlaws_internal_jsonstring_b1.FnMatchesMarshalSplitsOverConcat", spec := "fnMatchesMarshalSplitsOverConcat", apart := false }
def FnMatchesMarshalSplitsOverConcatSaid : Prop := fnMatchesMarshalSplitsOverConcatRow.holds Try.pinned (OpenSpec.ofChange fnMatchesMarshalSplitsOverConcatSpec)

/-- ITS FALSE NEIGHBOUR: 'it returns false'. Refute it at one input. -/
def fnMatchesMarshalSplitsOverConcatWrong : ChangeSpec := { name := "fnMatchesMarshalSplitsOverConcat", fn := fun _ => fun
  | [d1, d2] => { results := [.lit (.bool false)], args := [d1, d2] }
  | _ => none }
def FnMatchesMarshalSplitsOverConcatWrongFalsely : Prop := fnMatchesMarshalSplitsOverConcatRow.holds Try.pinned (OpenSpec.ofChange fnMatchesMarshalSplitsOverConcatWrong)

end Rows
end Go.Proofs.Qxb6608953a
