/-
  NARROWER THAN 'FOR EVERY INPUT', by the rows' own cells (each row's printed sentence says how): FnDepthIsBracketNesting: loops.
  DERIVED. THE GIVEN ROWS OF THIS SEAT. 2 by the template 'for every input the law returns true; each argument reads behind the call as it read before'; 0 by the template 'total and deterministic' (their statements: Qxb6614908aTotals.lean).
  GIVEN WITH THE SEED: the statements are not yours to turn. If you find one false, say at which input.
  Laid BY PROGRAM, IN A SANDBOX (cutbox-rows.mjs): the forced cells as the released guide's own fill.sh prints them over the translation 4b8a7dadce434bf7… (all of the seat's roots in one cut). By AI agents, Wed Nov 11 2026. No macro, syntax, notation, axiom, sorry.
-/
import Derived.Test.Qxb6614908aChecked
import GoSem.Claim
import GoSem.ClaimJoined
import GoSem.ClaimMapViews
import Derived.JoinedTies
import Derived.KernelRfl
namespace Go.Proofs.Qxb6614908a
/- THE CELL 'sum', in the pinned program and in every row, IS THE sha256 OF THE DUMP (.gsa) THAT Qxb6614908aProg.lean LOADS. Nothing in Lean hashes anything: it is a label: what it is worth is what the hold of that sum in a sandbox is worth. -/
noncomputable def Try.pinned : Pinned := { name := "qxb6614908a", sum := "4b8a7dadce434bf727b2057498c80bf0ef964c30bd9b8dec1fc31d66c247fd76", checked := Try.checked }
namespace Rows
def none {H : Type} : Left H := { results := [], args := [] }

/-- 'zzlaws_root_b1.FnPopKTimesLeavesPrefix': WHATEVER THE INPUT: true; the input reads as it did. -/
def fnPopKTimesLeavesPrefixSpec : ChangeSpec := { name := "fnPopKTimesLeavesPrefix", fn := fun _ => fun
  | [d1, d2] => { results := [.lit (.bool true)], args := [d1, d2] }
  | _ => none }
def fnPopKTimesLeavesPrefixRow : OpenClaim := { program := "qxb6614908a", sum := "4b8a7dadce434bf727b2057498c80bf0ef964c30bd9b8dec1fc31d66c247fd76", func := "example.com/bowerbird/bowerbird/zzlaws_root_b1.FnPopKTimesLeavesPrefix", spec := "fnPopKTimesLeavesPrefix", apart := false }
def FnPopKTimesLeavesPrefixSaid : Prop := fnPopKTimesLeavesPrefixRow.holds Try.pinned (OpenSpec.ofChange fnPopKTimesLeavesPrefixSpec)

/-- ITS FALSE NEIGHBOUR: 'it returns false'. Refute it at one input. -/
def fnPopKTimesLeavesPrefixWrong : ChangeSpec := { name := "fnPopKTimesLeavesPrefix", fn := fun _ => fun
  | [d1, d2] => { results := [.lit (.bool false)], args := [d1, d2] }
  | _ => none }
def FnPopKTimesLeavesPrefixWrongFalsely : Prop := fnPopKTimesLeavesPrefixRow.holds Try.pinned (OpenSpec.ofChange fnPopKTimesLeavesPrefixWrong)

/-- 'zzlaws_root_b1.FnDepthIsBracketNesting': WHATEVER THE INPUT: true; the input reads as it did. -/
def fnDepthIsBracketNestingSpec : ChangeSpec := { name := "fnDepthIsBracketNesting", fn := fun _ => fun
  | [d] => { results := [.lit (.bool true)], args := [d] }
  | _ => none }
def fnDepthIsBracketNestingRow : OpenClaim := { program := "qxb6614908a", sum := "4b8a7dadce434bf727b2057498c80bf0ef964c30bd9b8dec1fc31d66c247fd76", func := "example.com/bowerbird/bowerbird/zzlaws_root_b1.FnDepthIsBracketNesting", spec := "fnDepthIsBracketNesting", recurses := true, loops := true, apart := false }
def FnDepthIsBracketNestingSaid : Prop := fnDepthIsBracketNestingRow.holds Try.pinned (OpenSpec.ofChange fnDepthIsBracketNestingSpec)

/-- ITS FALSE NEIGHBOUR: 'it returns false'. Refute it at one input. -/
def fnDepthIsBracketNestingWrong : ChangeSpec := { name := "fnDepthIsBracketNesting", fn := fun _ => fun
  | [d] => { results := [.lit (.bool false)], args := [d] }
  | _ => none }
def FnDepthIsBracketNestingWrongFalsely : Prop := fnDepthIsBracketNestingRow.holds Try.pinned (OpenSpec.ofChange fnDepthIsBracketNestingWrong)

end Rows
end Go.Proofs.Qxb6614908a
