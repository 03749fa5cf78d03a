/-
  DERIVED. GIVEN WITH THE SEED: THE CARDS: each row of Qxb6608927aFmtRows.lean that lists a variable, with what it lists TIED to the program's text (the seventh form; the later family's looks); each row that meets fmt, with fmt's text TOLD by the authors' own Lean function (tested against real Go, not proved from fmt's source: count such statements apart). THE CARD IS WHAT COUNTS. Prove the row's statement (the work); the ties are given (Qxb6608927aFmtTie.lean); close each card by the builder's one call (the guide's Derived/Test/ToyasCard.lean, 'card_holds'). Laid BY PROGRAM, IN A SANDBOX (cutbox-door.mjs). By AI agents, Wed Nov 11 2026. No macro, syntax, notation, axiom, sorry.
-/
import Derived.Test.Qxb6608927aFmtRows
import GoSem.ClaimSeven
namespace Go.Proofs.Qxb6608927aFmt
namespace Rows

/-- THE TOLD CARD OF 'zzlaws_root_b1.FnStampOfWireInvertsWireAndAgreesWithDecoders'. -/
def fnStampOfWireInvertsWireAndAgreesWithDecodersCard : Claim7 := { stood := { row := fnStampOfWireInvertsWireAndAgreesWithDecodersRow, standIns := [], harness := (true, "85a0786e3bb13b3fc737d034d788c7eca017dfa24b478a1e11859772f1171864"), looks := true }, told := true, goes := false }
def FnStampOfWireInvertsWireAndAgreesWithDecodersToldSaid : Prop := Claim7.holds Tryf.pinned (.plain (OpenSpec.ofChange fnStampOfWireInvertsWireAndAgreesWithDecodersSpec)) fnStampOfWireInvertsWireAndAgreesWithDecodersCard
/-- ITS FALSE NEIGHBOUR. Refute it at one input. -/
def FnStampOfWireInvertsWireAndAgreesWithDecodersToldWrongFalsely : Prop := Claim7.holds Tryf.pinned (.plain (OpenSpec.ofChange fnStampOfWireInvertsWireAndAgreesWithDecodersWrong)) fnStampOfWireInvertsWireAndAgreesWithDecodersCard

/-- THE TOLD CARD OF 'zzlaws_root_b1.FnScanAcceptsExactlyTheStampForms'. -/
def fnScanAcceptsExactlyTheStampFormsCard : Claim7 := { stood := { row := fnScanAcceptsExactlyTheStampFormsRow, standIns := [], harness := (true, "85a0786e3bb13b3fc737d034d788c7eca017dfa24b478a1e11859772f1171864"), looks := true }, told := true, goes := false }
def FnScanAcceptsExactlyTheStampFormsToldSaid : Prop := Claim7.holds Tryf.pinned (.plain (OpenSpec.ofChange fnScanAcceptsExactlyTheStampFormsSpec)) fnScanAcceptsExactlyTheStampFormsCard
/-- ITS FALSE NEIGHBOUR. Refute it at one input. -/
def FnScanAcceptsExactlyTheStampFormsToldWrongFalsely : Prop := Claim7.holds Tryf.pinned (.plain (OpenSpec.ofChange fnScanAcceptsExactlyTheStampFormsWrong)) fnScanAcceptsExactlyTheStampFormsCard

/-- THE TOLD CARD OF 'zzlaws_root_b1.FnScanRefusesNullAndNumbersThenReadsBothForms'. -/
def fnScanRefusesNullAndNumbersThenReadsBothFormsCard : Claim7 := { stood := { row := fnScanRefusesNullAndNumbersThenReadsBothFormsRow, standIns := [], harness := (true, "85a0786e3bb13b3fc737d034d788c7eca017dfa24b478a1e11859772f1171864"), looks := true }, told := true, goes := false }
def FnScanRefusesNullAndNumbersThenReadsBothFormsToldSaid : Prop := Claim7.holds Tryf.pinned (.plain (OpenSpec.ofChange fnScanRefusesNullAndNumbersThenReadsBothFormsSpec)) fnScanRefusesNullAndNumbersThenReadsBothFormsCard
/-- ITS FALSE NEIGHBOUR. Refute it at one input. -/
def FnScanRefusesNullAndNumbersThenReadsBothFormsToldWrongFalsely : Prop := Claim7.holds Tryf.pinned (.plain (OpenSpec.ofChange fnScanRefusesNullAndNumbersThenReadsBothFormsWrong)) fnScanRefusesNullAndNumbersThenReadsBothFormsCard
end Rows
end Go.Proofs.Qxb6608927aFmt
