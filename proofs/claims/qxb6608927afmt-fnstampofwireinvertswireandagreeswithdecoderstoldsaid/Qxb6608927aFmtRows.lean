/-
  No cell of these rows narrows 'for every input' (looked for: loops, veiled, ifaces, maps, wideKeys, modest, calm, conditions, laid).
  DERIVED. THE GIVEN ROWS OF THIS SEAT. 3 by the template 'for every input the law returns true; each argument reads behind the call as it read before'; 0 by the template 'total and deterministic' (their statements: Qxb6608927aFmtTotals.lean).
  GIVEN WITH THE SEED: the statements are not yours to turn. If you find one false, say at which input.
  Laid BY PROGRAM, IN A SANDBOX (cutbox-rows.mjs): the forced cells as the released guide's own fill.sh prints them over the translation 9d3b9d382b24091c… (all of the seat's roots in one cut). By AI agents, Wed Nov 11 2026. No macro, syntax, notation, axiom, sorry.
-/
import Derived.Test.Qxb6608927aFmtChecked
import GoSem.Claim
import GoSem.ClaimJoined
import GoSem.ClaimMapViews
import Derived.JoinedTies
import Derived.KernelRfl
namespace Go.Proofs.Qxb6608927aFmt
/- THE CELL 'sum', in the pinned program and in every row, IS THE sha256 OF THE DUMP (.gsa) THAT Qxb6608927aFmtProg.lean LOADS. Nothing in Lean hashes anything: it is a label: what it is worth is what the hold of that sum in a sandbox is worth. -/
noncomputable def Tryf.pinned : Pinned := { name := "qxb6608927afmt", sum := "9d3b9d382b24091c5f47b9a8693cf9e4c4745530560974509e5f2f82c7e03241", checked := Tryf.checked }
namespace Rows
def none {H : Type} : Left H := { results := [], args := [] }

/-- 'zzlaws_root_b1.FnStampOfWireInvertsWireAndAgreesWithDecoders': WHATEVER THE INPUT: true; the input reads as it did. -/
def fnStampOfWireInvertsWireAndAgreesWithDecodersSpec : ChangeSpec := { name := "fnStampOfWireInvertsWireAndAgreesWithDecoders", fn := fun _ => fun
  | [d] => { results := [.lit (.bool true)], args := [d] }
  | _ => none }
def fnStampOfWireInvertsWireAndAgreesWithDecodersRow : OpenClaim := { program := "qxb6608927afmt", sum := "9d3b9d382b24091c5f47b9a8693cf9e4c4745530560974509e5f2f82c7e03241", func := "example.com/tickwise/tickwise/zzlaws_root_b1.FnStampOfWireInvertsWireAndAgreesWithDecoders", spec := "fnStampOfWireInvertsWireAndAgreesWithDecoders", stops := ["fmt.errorf", "fmt.Sprintf, its operands' methods called"], inPlace := ["fmt.errorf"], named := ["encoding/binary.BigEndian"], apart := false }
/-- NO THEOREM (fmt's text is open here; it may be false): for the released tool's asking of the row's closed facts alone. THE STATEMENT IS 'FnStampOfWireInvertsWireAndAgreesWithDecodersToldSaid' (Qxb6608927aFmtCards.lean). -/
def FnStampOfWireInvertsWireAndAgreesWithDecodersFormAsk : Prop := fnStampOfWireInvertsWireAndAgreesWithDecodersRow.holds Tryf.pinned (OpenSpec.ofChange fnStampOfWireInvertsWireAndAgreesWithDecodersSpec)

/-- ITS FALSE NEIGHBOUR: 'it returns false'. Refute it at one input. -/
def fnStampOfWireInvertsWireAndAgreesWithDecodersWrong : ChangeSpec := { name := "fnStampOfWireInvertsWireAndAgreesWithDecoders", fn := fun _ => fun
  | [d] => { results := [.lit (.bool false)], args := [d] }
  | _ => none }
def FnStampOfWireInvertsWireAndAgreesWithDecodersWrongFormAsk : Prop := fnStampOfWireInvertsWireAndAgreesWithDecodersRow.holds Tryf.pinned (OpenSpec.ofChange fnStampOfWireInvertsWireAndAgreesWithDecodersWrong)

/-- 'zzlaws_root_b1.FnScanAcceptsExactlyTheStampForms': WHATEVER THE INPUT: true; the input reads as it did. -/
def fnScanAcceptsExactlyTheStampFormsSpec : ChangeSpec := { name := "fnScanAcceptsExactlyTheStampForms", fn := fun _ => fun
  | [d1, d2, d3] => { results := [.lit (.bool true)], args := [d1, d2, d3] }
  | _ => none }
def fnScanAcceptsExactlyTheStampFormsRow : OpenClaim := { program := "qxb6608927afmt", sum := "9d3b9d382b24091c5f47b9a8693cf9e4c4745530560974509e5f2f82c7e03241", func := "example.com/tickwise/tickwise/zzlaws_root_b1.FnScanAcceptsExactlyTheStampForms", spec := "fnScanAcceptsExactlyTheStampForms", stops := ["fmt.errorf", "fmt.Sprintf, its operands' methods called"], inPlace := ["fmt.errorf", "fmt.Sprintf"], unfollowed := true, recurses := true, named := ["encoding/binary.BigEndian"], apart := false }
/-- NO THEOREM (fmt's text is open here; it may be false): for the released tool's asking of the row's closed facts alone. THE STATEMENT IS 'FnScanAcceptsExactlyTheStampFormsToldSaid' (Qxb6608927aFmtCards.lean). -/
def FnScanAcceptsExactlyTheStampFormsFormAsk : Prop := fnScanAcceptsExactlyTheStampFormsRow.holds Tryf.pinned (OpenSpec.ofChange fnScanAcceptsExactlyTheStampFormsSpec)

/-- ITS FALSE NEIGHBOUR: 'it returns false'. Refute it at one input. -/
def fnScanAcceptsExactlyTheStampFormsWrong : ChangeSpec := { name := "fnScanAcceptsExactlyTheStampForms", fn := fun _ => fun
  | [d1, d2, d3] => { results := [.lit (.bool false)], args := [d1, d2, d3] }
  | _ => none }
def FnScanAcceptsExactlyTheStampFormsWrongFormAsk : Prop := fnScanAcceptsExactlyTheStampFormsRow.holds Tryf.pinned (OpenSpec.ofChange fnScanAcceptsExactlyTheStampFormsWrong)

/-- 'zzlaws_root_b1.FnScanRefusesNullAndNumbersThenReadsBothForms': WHATEVER THE INPUT: true; the input reads as it did. -/
def fnScanRefusesNullAndNumbersThenReadsBothFormsSpec : ChangeSpec := { name := "fnScanRefusesNullAndNumbersThenReadsBothForms", fn := fun _ => fun
  | [d1, d2, d3, d4] => { results := [.lit (.bool true)], args := [d1, d2, d3, d4] }
  | _ => none }
def fnScanRefusesNullAndNumbersThenReadsBothFormsRow : OpenClaim := { program := "qxb6608927afmt", sum := "9d3b9d382b24091c5f47b9a8693cf9e4c4745530560974509e5f2f82c7e03241", func := "example.com/tickwise/tickwise/zzlaws_root_b1.FnScanRefusesNullAndNumbersThenReadsBothForms", spec := "fnScanRefusesNullAndNumbersThenReadsBothForms", stops := ["fmt.errorf", "fmt.Sprintf, its operands' methods called"], inPlace := ["fmt.errorf", "fmt.Sprintf"], unfollowed := true, recurses := true, named := ["encoding/binary.BigEndian"], apart := false }
/-- NO THEOREM (fmt's text is open here; it may be false): for the released tool's asking of the row's closed facts alone. THE STATEMENT IS 'FnScanRefusesNullAndNumbersThenReadsBothFormsToldSaid' (Qxb6608927aFmtCards.lean). -/
def FnScanRefusesNullAndNumbersThenReadsBothFormsFormAsk : Prop := fnScanRefusesNullAndNumbersThenReadsBothFormsRow.holds Tryf.pinned (OpenSpec.ofChange fnScanRefusesNullAndNumbersThenReadsBothFormsSpec)

/-- ITS FALSE NEIGHBOUR: 'it returns false'. Refute it at one input. -/
def fnScanRefusesNullAndNumbersThenReadsBothFormsWrong : ChangeSpec := { name := "fnScanRefusesNullAndNumbersThenReadsBothForms", fn := fun _ => fun
  | [d1, d2, d3, d4] => { results := [.lit (.bool false)], args := [d1, d2, d3, d4] }
  | _ => none }
def FnScanRefusesNullAndNumbersThenReadsBothFormsWrongFormAsk : Prop := fnScanRefusesNullAndNumbersThenReadsBothFormsRow.holds Tryf.pinned (OpenSpec.ofChange fnScanRefusesNullAndNumbersThenReadsBothFormsWrong)

end Rows
end Go.Proofs.Qxb6608927aFmt
