/-
  NARROWER THAN 'FOR EVERY INPUT', by the rows' own cells (each row's printed sentence says how): FnKindOfAgreesWithDepth: loops.
  DERIVED. THE GIVEN ROWS OF THIS SEAT. 1 by the template 'for every input the law returns true; each argument reads behind the call as it read before'; 0 by the template 'total and deterministic' (their statements: Qxb6614908aFmtTotals.lean).
  GIVEN WITH THE SEED: the statements are not yours to turn. If you find one false, say at which input.
  Laid BY PROGRAM, IN A SANDBOX (cutbox-rows.mjs): the forced cells as the released guide's own fill.sh prints them over the translation 6130731c5649518f… (all of the seat's roots in one cut). By AI agents, Wed Nov 11 2026. No macro, syntax, notation, axiom, sorry.
-/
import Derived.Test.Qxb6614908aFmtChecked
import GoSem.Claim
import GoSem.ClaimJoined
import GoSem.ClaimMapViews
import Derived.JoinedTies
import Derived.KernelRfl
namespace Go.Proofs.Qxb6614908aFmt
/- THE CELL 'sum', in the pinned program and in every row, IS THE sha256 OF THE DUMP (.gsa) THAT Qxb6614908aFmtProg.lean LOADS. Nothing in Lean hashes anything: it is a label: what it is worth is what the hold of that sum in a sandbox is worth. -/
noncomputable def Tryf.pinned : Pinned := { name := "qxb6614908afmt", sum := "6130731c5649518f59e2d64cc6e60670bd5c915794555cadbb91c1fdcbe47ca0", checked := Tryf.checked }
namespace Rows
def none {H : Type} : Left H := { results := [], args := [] }

/-- 'zzlaws_root_b1.FnKindOfAgreesWithDepth': WHATEVER THE INPUT: true; the input reads as it did. -/
def fnKindOfAgreesWithDepthSpec : ChangeSpec := { name := "fnKindOfAgreesWithDepth", fn := fun _ => fun
  | [d] => { results := [.lit (.bool true)], args := [d] }
  | _ => none }
def fnKindOfAgreesWithDepthRow : OpenClaim := { program := "qxb6614908afmt", sum := "6130731c5649518f59e2d64cc6e60670bd5c915794555cadbb91c1fdcbe47ca0", func := "example.com/bowerbird/bowerbird/zzlaws_root_b1.FnKindOfAgreesWithDepth", spec := "fnKindOfAgreesWithDepth", stops := ["fmt.Sprintf, its operands' methods called"], inPlace := ["fmt.Sprintf"], unfollowed := true, recurses := true, loops := true, apart := false }
/-- NO THEOREM (fmt's text is open here; it may be false): for the released tool's asking of the row's closed facts alone. THE STATEMENT IS 'FnKindOfAgreesWithDepthToldSaid' (Qxb6614908aFmtCards.lean). -/
def FnKindOfAgreesWithDepthFormAsk : Prop := fnKindOfAgreesWithDepthRow.holds Tryf.pinned (OpenSpec.ofChange fnKindOfAgreesWithDepthSpec)

/-- ITS FALSE NEIGHBOUR: 'it returns false'. Refute it at one input. -/
def fnKindOfAgreesWithDepthWrong : ChangeSpec := { name := "fnKindOfAgreesWithDepth", fn := fun _ => fun
  | [d] => { results := [.lit (.bool false)], args := [d] }
  | _ => none }
def FnKindOfAgreesWithDepthWrongFormAsk : Prop := fnKindOfAgreesWithDepthRow.holds Tryf.pinned (OpenSpec.ofChange fnKindOfAgreesWithDepthWrong)

end Rows
end Go.Proofs.Qxb6614908aFmt
