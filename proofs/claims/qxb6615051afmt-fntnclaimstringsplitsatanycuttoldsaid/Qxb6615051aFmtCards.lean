/-
  DERIVED. GIVEN WITH THE SEED: THE CARDS: each row of Qxb6615051aFmtRows.lean that lists a variable, with what it lists TIED to the program's text (the seventh form; the later family's looks); each row that meets fmt, with fmt's text TOLD by the authors' own Lean function (tested against real Go, not proved from fmt's source: count such statements apart). THE CARD IS WHAT COUNTS. Prove the row's statement (the work); the ties are given (Qxb6615051aFmtTie.lean); close each card by the builder's one call (the guide's Derived/Test/ToyasCard.lean, 'card_holds'). Laid BY PROGRAM, IN A SANDBOX (cutbox-door.mjs). By AI agents, Wed Nov 11 2026. No macro, syntax, notation, axiom, sorry.
-/
import Derived.Test.Qxb6615051aFmtRows
import GoSem.ClaimSeven
namespace Go.Proofs.Qxb6615051aFmt
namespace Rows

/-- THE TOLD AND TIED CARD OF 'zzlaws_root_b1.FnTNClaimStringSplitsAtAnyCut'. -/
def fnTNClaimStringSplitsAtAnyCutCard : Claim7 := { stood := { row := fnTNClaimStringSplitsAtAnyCutRow, standIns := [], harness := (true, "2f84292414d2fd0adb62521cad0fd6f92d153744b61f0d2470cdebf003cdb20f"), looks := false }, told := true, laidByText := true, laidKinds := [.data, .data, .data], laidTests := true, laidLooks := .later, goes := false }
def FnTNClaimStringSplitsAtAnyCutToldSaid : Prop := Claim7.holds Tryf.pinned (.plain (OpenSpec.ofChange fnTNClaimStringSplitsAtAnyCutSpec)) fnTNClaimStringSplitsAtAnyCutCard
/-- ITS FALSE NEIGHBOUR. Refute it at one input. -/
def FnTNClaimStringSplitsAtAnyCutToldWrongFalsely : Prop := Claim7.holds Tryf.pinned (.plain (OpenSpec.ofChange fnTNClaimStringSplitsAtAnyCutWrong)) fnTNClaimStringSplitsAtAnyCutCard

/-- THE TOLD CARD OF 'zzlaws_root_b1.FnIsHexDigitIsWhatAPercentEscapeTakes'. -/
def fnIsHexDigitIsWhatAPercentEscapeTakesCard : Claim7 := { stood := { row := fnIsHexDigitIsWhatAPercentEscapeTakesRow, standIns := [], harness := (true, "2f84292414d2fd0adb62521cad0fd6f92d153744b61f0d2470cdebf003cdb20f"), looks := false }, told := true, goes := false }
def FnIsHexDigitIsWhatAPercentEscapeTakesToldSaid : Prop := Claim7.holds Tryf.pinned (.plain (OpenSpec.ofChange fnIsHexDigitIsWhatAPercentEscapeTakesSpec)) fnIsHexDigitIsWhatAPercentEscapeTakesCard
/-- ITS FALSE NEIGHBOUR. Refute it at one input. -/
def FnIsHexDigitIsWhatAPercentEscapeTakesToldWrongFalsely : Prop := Claim7.holds Tryf.pinned (.plain (OpenSpec.ofChange fnIsHexDigitIsWhatAPercentEscapeTakesWrong)) fnIsHexDigitIsWhatAPercentEscapeTakesCard

/-- THE TOLD AND TIED CARD OF 'zzlaws_root_b1.FnTakeParamsMatchesItsSpecification'. -/
def fnTakeParamsMatchesItsSpecificationCard : Claim7 := { stood := { row := fnTakeParamsMatchesItsSpecificationRow, standIns := [], harness := (true, "2f84292414d2fd0adb62521cad0fd6f92d153744b61f0d2470cdebf003cdb20f"), looks := false }, told := true, laidByText := true, laidKinds := [.data, .pinned, .pinned], laidTests := true, laidLooks := .later, goes := false }
def FnTakeParamsMatchesItsSpecificationToldSaid : Prop := Claim7.holds Tryf.pinned (.plain (OpenSpec.ofChange fnTakeParamsMatchesItsSpecificationSpec)) fnTakeParamsMatchesItsSpecificationCard
/-- ITS FALSE NEIGHBOUR. Refute it at one input. -/
def FnTakeParamsMatchesItsSpecificationToldWrongFalsely : Prop := Claim7.holds Tryf.pinned (.plain (OpenSpec.ofChange fnTakeParamsMatchesItsSpecificationWrong)) fnTakeParamsMatchesItsSpecificationCard

/-- THE TOLD AND TIED CARD OF 'zzlaws_root_b1.FnTakeParamsVerdictIgnoresOrder'. -/
def fnTakeParamsVerdictIgnoresOrderCard : Claim7 := { stood := { row := fnTakeParamsVerdictIgnoresOrderRow, standIns := [], harness := (true, "2f84292414d2fd0adb62521cad0fd6f92d153744b61f0d2470cdebf003cdb20f"), looks := false }, told := true, laidByText := true, laidKinds := [.data, .pinned, .pinned], laidTests := true, laidLooks := .later, goes := false }
def FnTakeParamsVerdictIgnoresOrderToldSaid : Prop := Claim7.holds Tryf.pinned (.plain (OpenSpec.ofChange fnTakeParamsVerdictIgnoresOrderSpec)) fnTakeParamsVerdictIgnoresOrderCard
/-- ITS FALSE NEIGHBOUR. Refute it at one input. -/
def FnTakeParamsVerdictIgnoresOrderToldWrongFalsely : Prop := Claim7.holds Tryf.pinned (.plain (OpenSpec.ofChange fnTakeParamsVerdictIgnoresOrderWrong)) fnTakeParamsVerdictIgnoresOrderCard
end Rows
end Go.Proofs.Qxb6615051aFmt
