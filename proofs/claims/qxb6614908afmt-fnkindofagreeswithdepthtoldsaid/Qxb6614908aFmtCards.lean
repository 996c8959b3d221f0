/-
  DERIVED. GIVEN WITH THE SEED: THE CARDS: each row of Qxb6614908aFmtRows.lean that lists a variable, with what it lists TIED to the program's text (the seventh form; the later family's looks); each row that meets fmt, with fmt's text TOLD by the authors' own Lean function (tested against real Go, not proved from fmt's source: count such statements apart). THE CARD IS WHAT COUNTS. Prove the row's statement (the work); the ties are given (Qxb6614908aFmtTie.lean); close each card by the builder's one call (the guide's Derived/Test/ToyasCard.lean, 'card_holds'). Laid BY PROGRAM, IN A SANDBOX (cutbox-door.mjs). By AI agents, Wed Nov 11 2026. No macro, syntax, notation, axiom, sorry.
-/
import Derived.Test.Qxb6614908aFmtRows
import GoSem.ClaimSeven
namespace Go.Proofs.Qxb6614908aFmt
namespace Rows

/-- THE TOLD CARD OF 'zzlaws_root_b1.FnKindOfAgreesWithDepth'. -/
def fnKindOfAgreesWithDepthCard : Claim7 := { stood := { row := fnKindOfAgreesWithDepthRow, standIns := [], harness := (true, "e85fe49d2020ca8201c4bb164a73b36c9022c63383481477435065b65785a480"), looks := true }, told := true, goes := false }
def FnKindOfAgreesWithDepthToldSaid : Prop := Claim7.holds Tryf.pinned (.plain (OpenSpec.ofChange fnKindOfAgreesWithDepthSpec)) fnKindOfAgreesWithDepthCard
/-- ITS FALSE NEIGHBOUR. Refute it at one input. -/
def FnKindOfAgreesWithDepthToldWrongFalsely : Prop := Claim7.holds Tryf.pinned (.plain (OpenSpec.ofChange fnKindOfAgreesWithDepthWrong)) fnKindOfAgreesWithDepthCard
end Rows
end Go.Proofs.Qxb6614908aFmt
