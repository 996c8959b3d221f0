/-
  No cell of these rows narrows 'for every input' (looked for: loops, veiled, ifaces, maps, wideKeys, modest, calm, conditions, laid).
  DERIVED. THE GIVEN ROWS OF THIS SEAT. 2 by the template 'for every input the law returns true; each argument reads behind the call as it read before'; 0 by the template 'total and deterministic' (their statements: Qxb6615051aTotals.lean).
  GIVEN WITH THE SEED: the statements are not yours to turn. If you find one false, say at which input.
  Laid BY PROGRAM, IN A SANDBOX (cutbox-rows.mjs): the forced cells as the released guide's own fill.sh prints them over the translation 9fd690ade43a49fb… (all of the seat's roots in one cut). By AI agents, Wed Nov 11 2026. No macro, syntax, notation, axiom, sorry.
-/
import Derived.Test.Qxb6615051aChecked
import GoSem.Claim
import GoSem.ClaimJoined
import GoSem.ClaimMapViews
import Derived.JoinedTies
import Derived.KernelRfl
namespace Go.Proofs.Qxb6615051a
/- THE CELL 'sum', in the pinned program and in every row, IS THE sha256 OF THE DUMP (.gsa) THAT Qxb6615051aProg.lean LOADS. Nothing in Lean hashes anything: it is a label: what it is worth is what the hold of that sum in a sandbox is worth. -/
noncomputable def Try.pinned : Pinned := { name := "qxb6615051a", sum := "9fd690ade43a49fb4a87de370feba019aed55be753b879579fd9764e872fedf1", checked := Try.checked }
namespace Rows
def none {H : Type} : Left H := { results := [], args := [] }

/-- 'zzlaws_root_b1.FnIsHexDigitCaseFreeAndTwentyTwo': WHATEVER THE INPUT: true; the input reads as it did. -/
def fnIsHexDigitCaseFreeAndTwentyTwoSpec : ChangeSpec := { name := "fnIsHexDigitCaseFreeAndTwentyTwo", fn := fun _ => fun
  | [d] => { results := [.lit (.bool true)], args := [d] }
  | _ => none }
def fnIsHexDigitCaseFreeAndTwentyTwoRow : OpenClaim := { program := "qxb6615051a", sum := "9fd690ade43a49fb4a87de370feba019aed55be753b879579fd9764e872fedf1", func := "example.com/numberseal/numberseal/zzlaws_root_b1.FnIsHexDigitCaseFreeAndTwentyTwo", spec := "fnIsHexDigitCaseFreeAndTwentyTwo", apart := false }
def FnIsHexDigitCaseFreeAndTwentyTwoSaid : Prop := fnIsHexDigitCaseFreeAndTwentyTwoRow.holds Try.pinned (OpenSpec.ofChange fnIsHexDigitCaseFreeAndTwentyTwoSpec)

/-- ITS FALSE NEIGHBOUR: 'it returns false'. Refute it at one input. -/
def fnIsHexDigitCaseFreeAndTwentyTwoWrong : ChangeSpec := { name := "fnIsHexDigitCaseFreeAndTwentyTwo", fn := fun _ => fun
  | [d] => { results := [.lit (.bool false)], args := [d] }
  | _ => none }
def FnIsHexDigitCaseFreeAndTwentyTwoWrongFalsely : Prop := fnIsHexDigitCaseFreeAndTwentyTwoRow.holds Try.pinned (OpenSpec.ofChange fnIsHexDigitCaseFreeAndTwentyTwoWrong)

/-- 'zzlaws_root_b1.FnChainCheckDoneOnceClosed': WHATEVER THE INPUT: true; the input reads as it did. -/
def fnChainCheckDoneOnceClosedSpec : ChangeSpec := { name := "fnChainCheckDoneOnceClosed", fn := fun _ => fun
  | [d1, d2, d3] => { results := [.lit (.bool true)], args := [d1, d2, d3] }
  | _ => none }
def fnChainCheckDoneOnceClosedRow : OpenClaim := { program := "qxb6615051a", sum := "9fd690ade43a49fb4a87de370feba019aed55be753b879579fd9764e872fedf1", func := "example.com/numberseal/numberseal/zzlaws_root_b1.FnChainCheckDoneOnceClosed", spec := "fnChainCheckDoneOnceClosed", apart := false }
def FnChainCheckDoneOnceClosedSaid : Prop := fnChainCheckDoneOnceClosedRow.holds Try.pinned (OpenSpec.ofChange fnChainCheckDoneOnceClosedSpec)

/-- ITS FALSE NEIGHBOUR: 'it returns false'. Refute it at one input. -/
def fnChainCheckDoneOnceClosedWrong : ChangeSpec := { name := "fnChainCheckDoneOnceClosed", fn := fun _ => fun
  | [d1, d2, d3] => { results := [.lit (.bool false)], args := [d1, d2, d3] }
  | _ => none }
def FnChainCheckDoneOnceClosedWrongFalsely : Prop := fnChainCheckDoneOnceClosedRow.holds Try.pinned (OpenSpec.ofChange fnChainCheckDoneOnceClosedWrong)

end Rows
end Go.Proofs.Qxb6615051a
