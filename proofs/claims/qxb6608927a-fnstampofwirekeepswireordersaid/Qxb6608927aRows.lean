/-
  No cell of these rows narrows 'for every input' (looked for: loops, veiled, ifaces, maps, wideKeys, modest, calm, conditions, laid).
  DERIVED. THE GIVEN ROWS OF THIS SEAT. 2 by the template 'for every input the law returns true; each argument reads behind the call as it read before'; 0 by the template 'total and deterministic' (their statements: Qxb6608927aTotals.lean).
  GIVEN WITH THE SEED: the statements are not yours to turn. If you find one false, say at which input.
  Laid BY PROGRAM, IN A SANDBOX (cutbox-rows.mjs): the forced cells as the released guide's own fill.sh prints them over the translation e0d1f043a091a280… (all of the seat's roots in one cut). By AI agents, Wed Nov 11 2026. No macro, syntax, notation, axiom, sorry.
-/
import Derived.Test.Qxb6608927aChecked
import GoSem.Claim
import GoSem.ClaimJoined
import GoSem.ClaimMapViews
import Derived.JoinedTies
import Derived.KernelRfl
namespace Go.Proofs.Qxb6608927a
/- THE CELL 'sum', in the pinned program and in every row, IS THE sha256 OF THE DUMP (.gsa) THAT Qxb6608927aProg.lean LOADS. Nothing in Lean hashes anything: it is a label: what it is worth is what the hold of that sum in a sandbox is worth. -/
noncomputable def Try.pinned : Pinned := { name := "qxb6608927a", sum := "e0d1f043a091a280390eb3c6a3859c2a8106d074fe1f1303dce2c20da8dabd5f", checked := Try.checked }
namespace Rows
def none {H : Type} : Left H := { results := [], args := [] }

/-- 'zzlaws_root_b1.FnStampOfWireKeepsWireOrder': WHATEVER THE INPUT: true; the input reads as it did. -/
def fnStampOfWireKeepsWireOrderSpec : ChangeSpec := { name := "fnStampOfWireKeepsWireOrder", fn := fun _ => fun
  | [d1, d2] => { results := [.lit (.bool true)], args := [d1, d2] }
  | _ => none }
def fnStampOfWireKeepsWireOrderRow : OpenClaim := { program := "qxb6608927a", sum := "e0d1f043a091a280390eb3c6a3859c2a8106d074fe1f1303dce2c20da8dabd5f", func := "example.com/tickwise/tickwise/zzlaws_root_b1.FnStampOfWireKeepsWireOrder", spec := "fnStampOfWireKeepsWireOrder", apart := false }
def FnStampOfWireKeepsWireOrderSaid : Prop := fnStampOfWireKeepsWireOrderRow.holds Try.pinned (OpenSpec.ofChange fnStampOfWireKeepsWireOrderSpec)

/-- ITS FALSE NEIGHBOUR: 'it returns false'. Refute it at one input. -/
def fnStampOfWireKeepsWireOrderWrong : ChangeSpec := { name := "fnStampOfWireKeepsWireOrder", fn := fun _ => fun
  | [d1, d2] => { results := [.lit (.bool false)], args := [d1, d2] }
  | _ => none }
def FnStampOfWireKeepsWireOrderWrongFalsely : Prop := fnStampOfWireKeepsWireOrderRow.holds Try.pinned (OpenSpec.ofChange fnStampOfWireKeepsWireOrderWrong)

/-- 'zzlaws_root_b1.FnCompareMatchesCounterwiseModel': WHATEVER THE INPUT: true; the input reads as it did. -/
def fnCompareMatchesCounterwiseModelSpec : ChangeSpec := { name := "fnCompareMatchesCounterwiseModel", fn := fun _ => fun
  | [d1, d2, d3, d4] => { results := [.lit (.bool true)], args := [d1, d2, d3, d4] }
  | _ => none }
def fnCompareMatchesCounterwiseModelRow : OpenClaim := { program := "qxb6608927a", sum := "e0d1f043a091a280390eb3c6a3859c2a8106d074fe1f1303dce2c20da8dabd5f", func := "example.com/tickwise/tickwise/zzlaws_root_b1.FnCompareMatchesCounterwiseModel", spec := "fnCompareMatchesCounterwiseModel", apart := false }
def FnCompareMatchesCounterwiseModelSaid : Prop := fnCompareMatchesCounterwiseModelRow.holds Try.pinned (OpenSpec.ofChange fnCompareMatchesCounterwiseModelSpec)

/-- ITS FALSE NEIGHBOUR: 'it returns false'. Refute it at one input. -/
def fnCompareMatchesCounterwiseModelWrong : ChangeSpec := { name := "fnCompareMatchesCounterwiseModel", fn := fun _ => fun
  | [d1, d2, d3, d4] => { results := [.lit (.bool false)], args := [d1, d2, d3, d4] }
  | _ => none }
def FnCompareMatchesCounterwiseModelWrongFalsely : Prop := fnCompareMatchesCounterwiseModelRow.holds Try.pinned (OpenSpec.ofChange fnCompareMatchesCounterwiseModelWrong)

end Rows
end Go.Proofs.Qxb6608927a
