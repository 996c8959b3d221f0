/-
  No cell of these rows narrows 'for every input' (looked for: loops, veiled, ifaces, maps, wideKeys, modest, calm, conditions, laid).
  DERIVED. THE GIVEN ROWS OF THIS SEAT. 2 by the template 'for every input the law returns true; each argument reads behind the call as it read before'; 0 by the template 'total and deterministic' (their statements: Qxb6608740aTotals.lean).
  GIVEN WITH THE SEED: the statements are not yours to turn. If you find one false, say at which input.
  Laid BY PROGRAM, IN A SANDBOX (cutbox-rows.mjs): the forced cells as the released guide's own fill.sh prints them over the translation a970a6242947f604… (all of the seat's roots in one cut). By AI agents, Wed Nov 11 2026. No macro, syntax, notation, axiom, sorry.
-/
import Derived.Test.Qxb6608740aChecked
import GoSem.Claim
import GoSem.ClaimJoined
import GoSem.ClaimMapViews
import Derived.JoinedTies
import Derived.KernelRfl
namespace Go.Proofs.Qxb6608740a
/- THE CELL 'sum', in the pinned program and in every row, IS THE sha256 OF THE DUMP (.gsa) THAT Qxb6608740aProg.lean LOADS. Nothing in Lean hashes anything: it is a label: what it is worth is what the hold of that sum in a sandbox is worth. -/
noncomputable def Try.pinned : Pinned := { name := "qxb6608740a", sum := "a970a6242947f6042847cd07c5ea2a883ecc4dd6a7cce43d591bbb14c3ac5708", checked := Try.checked }
namespace Rows
def none {H : Type} : Left H := { results := [], args := [] }

/-- 'zzlaws_internal_timeid_b1.FnMaxIDDoublesWithEachBit': WHATEVER THE INPUT: true; the input reads as it did. -/
def fnMaxIDDoublesWithEachBitSpec : ChangeSpec := { name := "fnMaxIDDoublesWithEachBit", fn := fun _ => fun
  | [d1, d2, d3, d4, d5] => { results := [.lit (.bool true)], args := [d1, d2, d3, d4, d5] }
  | _ => none }
def fnMaxIDDoublesWithEachBitRow : OpenClaim := { program := "qxb6608740a", sum := "a970a6242947f6042847cd07c5ea2a883ecc4dd6a7cce43d591bbb14c3ac5708", func := "example.com/minter/minter/zzlaws_internal_timeid_b1.FnMaxIDDoublesWithEachBit", spec := "fnMaxIDDoublesWithEachBit", apart := false }
def FnMaxIDDoublesWithEachBitSaid : Prop := fnMaxIDDoublesWithEachBitRow.holds Try.pinned (OpenSpec.ofChange fnMaxIDDoublesWithEachBitSpec)

/-- ITS FALSE NEIGHBOUR: 'it returns false'. Refute it at one input. -/
def fnMaxIDDoublesWithEachBitWrong : ChangeSpec := { name := "fnMaxIDDoublesWithEachBit", fn := fun _ => fun
  | [d1, d2, d3, d4, d5] => { results := [.lit (.bool false)], args := [d1, d2, d3, d4, d5] }
  | _ => none }
def FnMaxIDDoublesWithEachBitWrongFalsely : Prop := fnMaxIDDoublesWithEachBitRow.holds Try.pinned (OpenSpec.ofChange fnMaxIDDoublesWithEachBitWrong)

/-- 'zzlaws_internal_timeid_b1.FnMaxIDIsSeqRoomShiftedPastTimeAndNode': WHATEVER THE INPUT: true; the input reads as it did. -/
def fnMaxIDIsSeqRoomShiftedPastTimeAndNodeSpec : ChangeSpec := { name := "fnMaxIDIsSeqRoomShiftedPastTimeAndNode", fn := fun _ => fun
  | [d1, d2, d3, d4, d5] => { results := [.lit (.bool true)], args := [d1, d2, d3, d4, d5] }
  | _ => none }
def fnMaxIDIsSeqRoomShiftedPastTimeAndNodeRow : OpenClaim := { program := "qxb6608740a", sum := "a970a6242947f6042847cd07c5ea2a883ecc4dd6a7cce43d591bbb14c3ac5708", func := "example.com/minter/minter/zzlaws_internal_timeid_b1.FnMaxIDIsSeqRoomShiftedPastTimeAndNode", spec := "fnMaxIDIsSeqRoomShiftedPastTimeAndNode", apart := false }
def FnMaxIDIsSeqRoomShiftedPastTimeAndNodeSaid : Prop := fnMaxIDIsSeqRoomShiftedPastTimeAndNodeRow.holds Try.pinned (OpenSpec.ofChange fnMaxIDIsSeqRoomShiftedPastTimeAndNodeSpec)

/-- ITS FALSE NEIGHBOUR: 'it returns false'. Refute it at one input. -/
def fnMaxIDIsSeqRoomShiftedPastTimeAndNodeWrong : ChangeSpec := { name := "fnMaxIDIsSeqRoomShiftedPastTimeAndNode", fn := fun _ => fun
  | [d1, d2, d3, d4, d5] => { results := [.lit (.bool false)], args := [d1, d2, d3, d4, d5] }
  | _ => none }
def FnMaxIDIsSeqRoomShiftedPastTimeAndNodeWrongFalsely : Prop := fnMaxIDIsSeqRoomShiftedPastTimeAndNodeRow.holds Try.pinned (OpenSpec.ofChange fnMaxIDIsSeqRoomShiftedPastTimeAndNodeWrong)

end Rows
end Go.Proofs.Qxb6608740a
