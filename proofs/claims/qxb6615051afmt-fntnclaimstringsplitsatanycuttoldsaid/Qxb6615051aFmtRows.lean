/-
  NARROWER THAN 'FOR EVERY INPUT', by the rows' own cells (each row's printed sentence says how): FnTNClaimStringSplitsAtAnyCut: laid · FnTakeParamsMatchesItsSpecification: laid · FnTakeParamsVerdictIgnoresOrder: laid.
  DERIVED. THE GIVEN ROWS OF THIS SEAT. 4 by the template 'for every input the law returns true; each argument reads behind the call as it read before'; 0 by the template 'total and deterministic' (their statements: Qxb6615051aFmtTotals.lean).
  GIVEN WITH THE SEED: the statements are not yours to turn. If you find one false, say at which input.
  Laid BY PROGRAM, IN A SANDBOX (cutbox-rows.mjs): the forced cells as the released guide's own fill.sh prints them over the translation 5a816921b9361e3d… (all of the seat's roots in one cut). By AI agents, Wed Nov 11 2026. No macro, syntax, notation, axiom, sorry.
-/
import Derived.Test.Qxb6615051aFmtChecked
import GoSem.PinnedTables
import GoSem.Claim
import GoSem.ClaimJoined
import GoSem.ClaimMapViews
import Derived.JoinedTies
import Derived.KernelRfl
namespace Go.Proofs.Qxb6615051aFmt
/- THE CELL 'sum', in the pinned program and in every row, IS THE sha256 OF THE DUMP (.gsa) THAT Qxb6615051aFmtProg.lean LOADS. Nothing in Lean hashes anything: it is a label: what it is worth is what the hold of that sum in a sandbox is worth. -/
noncomputable def Tryf.pinned : Pinned := { name := "qxb6615051afmt", sum := "5a816921b9361e3df37218829f49a7356b8d745dbf4b3c8b28915b2ab63a3c9f", checked := Tryf.checked }
namespace Rows
def none {H : Type} : Left H := { results := [], args := [] }

/- WHAT THE LISTED PACKAGE-LEVEL VARIABLES READ AS WHEN THE CALL BEGINS. Each datum BY PROGRAM (the guide's laid-datum.mjs) off the statement by which the dump's own 'gosem.cut.vars' lays the variable. In a bare row this is a premise. The card (Qxb6615051aFmtCards.lean) ties it to the program's text. -/
def laid_math_bits_deBruijn32tab {H : Type} : DataW H := .agg [.lit (.int .u8 0), .lit (.int .u8 1), .lit (.int .u8 28), .lit (.int .u8 2), .lit (.int .u8 29), .lit (.int .u8 14), .lit (.int .u8 24), .lit (.int .u8 3), .lit (.int .u8 30), .lit (.int .u8 22), .lit (.int .u8 20), .lit (.int .u8 15), .lit (.int .u8 25), .lit (.int .u8 17), .lit (.int .u8 4), .lit (.int .u8 8), .lit (.int .u8 31), .lit (.int .u8 27), .lit (.int .u8 13), .lit (.int .u8 23), .lit (.int .u8 21), .lit (.int .u8 19), .lit (.int .u8 16), .lit (.int .u8 7), .lit (.int .u8 26), .lit (.int .u8 12), .lit (.int .u8 18), .lit (.int .u8 6), .lit (.int .u8 11), .lit (.int .u8 5), .lit (.int .u8 10), .lit (.int .u8 9)]
def laid_math_bits_deBruijn64tab {H : Type} : DataW H := .agg [.lit (.int .u8 0), .lit (.int .u8 1), .lit (.int .u8 56), .lit (.int .u8 2), .lit (.int .u8 57), .lit (.int .u8 49), .lit (.int .u8 28), .lit (.int .u8 3), .lit (.int .u8 61), .lit (.int .u8 58), .lit (.int .u8 42), .lit (.int .u8 50), .lit (.int .u8 38), .lit (.int .u8 29), .lit (.int .u8 17), .lit (.int .u8 4), .lit (.int .u8 62), .lit (.int .u8 47), .lit (.int .u8 59), .lit (.int .u8 36), .lit (.int .u8 45), .lit (.int .u8 43), .lit (.int .u8 51), .lit (.int .u8 22), .lit (.int .u8 53), .lit (.int .u8 39), .lit (.int .u8 33), .lit (.int .u8 30), .lit (.int .u8 24), .lit (.int .u8 18), .lit (.int .u8 12), .lit (.int .u8 5), .lit (.int .u8 63), .lit (.int .u8 55), .lit (.int .u8 48), .lit (.int .u8 27), .lit (.int .u8 60), .lit (.int .u8 41), .lit (.int .u8 37), .lit (.int .u8 16), .lit (.int .u8 46), .lit (.int .u8 35), .lit (.int .u8 44), .lit (.int .u8 21), .lit (.int .u8 52), .lit (.int .u8 32), .lit (.int .u8 23), .lit (.int .u8 11), .lit (.int .u8 54), .lit (.int .u8 26), .lit (.int .u8 40), .lit (.int .u8 15), .lit (.int .u8 34), .lit (.int .u8 20), .lit (.int .u8 31), .lit (.int .u8 10), .lit (.int .u8 25), .lit (.int .u8 14), .lit (.int .u8 19), .lit (.int .u8 9), .lit (.int .u8 13), .lit (.int .u8 8), .lit (.int .u8 7), .lit (.int .u8 6)]
def laid_internal_strconv_uint64pow10 {H : Type} : DataW H := .agg [.lit (.int .u64 1), .lit (.int .u64 10), .lit (.int .u64 100), .lit (.int .u64 1000), .lit (.int .u64 10000), .lit (.int .u64 100000), .lit (.int .u64 1000000), .lit (.int .u64 10000000), .lit (.int .u64 100000000), .lit (.int .u64 1000000000), .lit (.int .u64 10000000000), .lit (.int .u64 100000000000), .lit (.int .u64 1000000000000), .lit (.int .u64 10000000000000), .lit (.int .u64 100000000000000), .lit (.int .u64 1000000000000000), .lit (.int .u64 10000000000000000), .lit (.int .u64 100000000000000000), .lit (.int .u64 1000000000000000000), .lit (.int .u64 10000000000000000000)]
def laid_unicode_utf8_acceptRanges {H : Type} : DataW H := .agg [.agg [.lit (.int .u8 128), .lit (.int .u8 191)], .agg [.lit (.int .u8 160), .lit (.int .u8 191)], .agg [.lit (.int .u8 128), .lit (.int .u8 159)], .agg [.lit (.int .u8 144), .lit (.int .u8 191)], .agg [.lit (.int .u8 128), .lit (.int .u8 143)], .agg [.lit (.int .u8 0), .lit (.int .u8 0)], .agg [.lit (.int .u8 0), .lit (.int .u8 0)], .agg [.lit (.int .u8 0), .lit (.int .u8 0)], .agg [.lit (.int .u8 0), .lit (.int .u8 0)], .agg [.lit (.int .u8 0), .lit (.int .u8 0)], .agg [.lit (.int .u8 0), .lit (.int .u8 0)], .agg [.lit (.int .u8 0), .lit (.int .u8 0)], .agg [.lit (.int .u8 0), .lit (.int .u8 0)], .agg [.lit (.int .u8 0), .lit (.int .u8 0)], .agg [.lit (.int .u8 0), .lit (.int .u8 0)], .agg [.lit (.int .u8 0), .lit (.int .u8 0)]]
/-- One of Go's own tables, pinned by name: the form's constant. -/
def laid_unicode_CaseRanges : DataW Unit := Go.Pinned.caseRanges
/-- One of Go's own tables, pinned by name: the form's constant. -/
def laid_unicode_utf8_first : DataW Unit := Go.Pinned.utf8First

/-- 'zzlaws_root_b1.FnTNClaimStringSplitsAtAnyCut': WHATEVER THE INPUT: true; the input reads as it did. -/
def fnTNClaimStringSplitsAtAnyCutSpec : ChangeSpec := { name := "fnTNClaimStringSplitsAtAnyCut", fn := fun _ => fun
  | [d1, d2] => { results := [.lit (.bool true)], args := [d1, d2] }
  | _ => none }
def fnTNClaimStringSplitsAtAnyCutRow : OpenClaim := { program := "qxb6615051afmt", sum := "5a816921b9361e3df37218829f49a7356b8d745dbf4b3c8b28915b2ab63a3c9f", func := "example.com/numberseal/numberseal/zzlaws_root_b1.FnTNClaimStringSplitsAtAnyCut", spec := "fnTNClaimStringSplitsAtAnyCut", stops := ["fmt.errorf"], inPlace := ["fmt.errorf", "internal/abi.NoEscape", "internal/bytealg.MakeNoZero"], named := ["internal/strconv.uint64pow10", "math/bits.deBruijn32tab", "math/bits.deBruijn64tab"], apart := false, laid := [("math/bits.deBruijn32tab", laid_math_bits_deBruijn32tab), ("math/bits.deBruijn64tab", laid_math_bits_deBruijn64tab), ("internal/strconv.uint64pow10", laid_internal_strconv_uint64pow10)] }
/-- NO THEOREM (fmt's text is open here; it may be false): for the released tool's asking of the row's closed facts alone. THE STATEMENT IS 'FnTNClaimStringSplitsAtAnyCutToldSaid' (Qxb6615051aFmtCards.lean). -/
def FnTNClaimStringSplitsAtAnyCutFormAsk : Prop := fnTNClaimStringSplitsAtAnyCutRow.holds Tryf.pinned (OpenSpec.ofChange fnTNClaimStringSplitsAtAnyCutSpec)

/-- ITS FALSE NEIGHBOUR: 'it returns false'. Refute it at one input. -/
def fnTNClaimStringSplitsAtAnyCutWrong : ChangeSpec := { name := "fnTNClaimStringSplitsAtAnyCut", fn := fun _ => fun
  | [d1, d2] => { results := [.lit (.bool false)], args := [d1, d2] }
  | _ => none }
def FnTNClaimStringSplitsAtAnyCutWrongFormAsk : Prop := fnTNClaimStringSplitsAtAnyCutRow.holds Tryf.pinned (OpenSpec.ofChange fnTNClaimStringSplitsAtAnyCutWrong)

/-- 'zzlaws_root_b1.FnIsHexDigitIsWhatAPercentEscapeTakes': WHATEVER THE INPUT: true; the input reads as it did. -/
def fnIsHexDigitIsWhatAPercentEscapeTakesSpec : ChangeSpec := { name := "fnIsHexDigitIsWhatAPercentEscapeTakes", fn := fun _ => fun
  | [d1, d2] => { results := [.lit (.bool true)], args := [d1, d2] }
  | _ => none }
def fnIsHexDigitIsWhatAPercentEscapeTakesRow : OpenClaim := { program := "qxb6615051afmt", sum := "5a816921b9361e3df37218829f49a7356b8d745dbf4b3c8b28915b2ab63a3c9f", func := "example.com/numberseal/numberseal/zzlaws_root_b1.FnIsHexDigitIsWhatAPercentEscapeTakes", spec := "fnIsHexDigitIsWhatAPercentEscapeTakes", stops := ["fmt.errorf"], inPlace := ["internal/bytealg.IndexByteString", "internal/bytealg.IndexString", "fmt.errorf"], unfollowed := true, recurses := true, named := ["internal/bytealg.MaxLen"], apart := false }
/-- NO THEOREM (fmt's text is open here; it may be false): for the released tool's asking of the row's closed facts alone. THE STATEMENT IS 'FnIsHexDigitIsWhatAPercentEscapeTakesToldSaid' (Qxb6615051aFmtCards.lean). -/
def FnIsHexDigitIsWhatAPercentEscapeTakesFormAsk : Prop := fnIsHexDigitIsWhatAPercentEscapeTakesRow.holds Tryf.pinned (OpenSpec.ofChange fnIsHexDigitIsWhatAPercentEscapeTakesSpec)

/-- ITS FALSE NEIGHBOUR: 'it returns false'. Refute it at one input. -/
def fnIsHexDigitIsWhatAPercentEscapeTakesWrong : ChangeSpec := { name := "fnIsHexDigitIsWhatAPercentEscapeTakes", fn := fun _ => fun
  | [d1, d2] => { results := [.lit (.bool false)], args := [d1, d2] }
  | _ => none }
def FnIsHexDigitIsWhatAPercentEscapeTakesWrongFormAsk : Prop := fnIsHexDigitIsWhatAPercentEscapeTakesRow.holds Tryf.pinned (OpenSpec.ofChange fnIsHexDigitIsWhatAPercentEscapeTakesWrong)

/-- 'zzlaws_root_b1.FnTakeParamsMatchesItsSpecification': WHATEVER THE INPUT: true; the input reads as it did. -/
def fnTakeParamsMatchesItsSpecificationSpec : ChangeSpec := { name := "fnTakeParamsMatchesItsSpecification", fn := fun _ => fun
  | [d1, d2, d3, d4] => { results := [.lit (.bool true)], args := [d1, d2, d3, d4] }
  | _ => none }
def fnTakeParamsMatchesItsSpecificationRow : OpenClaim := { program := "qxb6615051afmt", sum := "5a816921b9361e3df37218829f49a7356b8d745dbf4b3c8b28915b2ab63a3c9f", func := "example.com/numberseal/numberseal/zzlaws_root_b1.FnTakeParamsMatchesItsSpecification", spec := "fnTakeParamsMatchesItsSpecification", stops := ["fmt.errorf"], inPlace := ["internal/abi.NoEscape", "internal/bytealg.MakeNoZero", "fmt.errorf", "internal/bytealg.IndexByteString", "internal/bytealg.IndexString"], unfollowed := true, recurses := true, named := ["unicode/utf8.first", "unicode/utf8.acceptRanges", "unicode.CaseRanges", "internal/bytealg.MaxLen"], apart := false, laid := [("unicode/utf8.acceptRanges", laid_unicode_utf8_acceptRanges), ("unicode.CaseRanges", laid_unicode_CaseRanges), ("unicode/utf8.first", laid_unicode_utf8_first)] }
/-- NO THEOREM (fmt's text is open here; it may be false): for the released tool's asking of the row's closed facts alone. THE STATEMENT IS 'FnTakeParamsMatchesItsSpecificationToldSaid' (Qxb6615051aFmtCards.lean). -/
def FnTakeParamsMatchesItsSpecificationFormAsk : Prop := fnTakeParamsMatchesItsSpecificationRow.holds Tryf.pinned (OpenSpec.ofChange fnTakeParamsMatchesItsSpecificationSpec)

/-- ITS FALSE NEIGHBOUR: 'it returns false'. Refute it at one input. -/
def fnTakeParamsMatchesItsSpecificationWrong : ChangeSpec := { name := "fnTakeParamsMatchesItsSpecification", fn := fun _ => fun
  | [d1, d2, d3, d4] => { results := [.lit (.bool false)], args := [d1, d2, d3, d4] }
  | _ => none }
def FnTakeParamsMatchesItsSpecificationWrongFormAsk : Prop := fnTakeParamsMatchesItsSpecificationRow.holds Tryf.pinned (OpenSpec.ofChange fnTakeParamsMatchesItsSpecificationWrong)

/-- 'zzlaws_root_b1.FnTakeParamsVerdictIgnoresOrder': WHATEVER THE INPUT: true; the input reads as it did. -/
def fnTakeParamsVerdictIgnoresOrderSpec : ChangeSpec := { name := "fnTakeParamsVerdictIgnoresOrder", fn := fun _ => fun
  | [d1, d2, d3, d4, d5] => { results := [.lit (.bool true)], args := [d1, d2, d3, d4, d5] }
  | _ => none }
def fnTakeParamsVerdictIgnoresOrderRow : OpenClaim := { program := "qxb6615051afmt", sum := "5a816921b9361e3df37218829f49a7356b8d745dbf4b3c8b28915b2ab63a3c9f", func := "example.com/numberseal/numberseal/zzlaws_root_b1.FnTakeParamsVerdictIgnoresOrder", spec := "fnTakeParamsVerdictIgnoresOrder", stops := ["fmt.errorf"], inPlace := ["internal/abi.NoEscape", "internal/bytealg.MakeNoZero", "fmt.errorf", "internal/bytealg.IndexByteString", "internal/bytealg.IndexString"], unfollowed := true, recurses := true, named := ["unicode/utf8.first", "unicode/utf8.acceptRanges", "unicode.CaseRanges", "internal/bytealg.MaxLen"], apart := false, laid := [("unicode/utf8.acceptRanges", laid_unicode_utf8_acceptRanges), ("unicode.CaseRanges", laid_unicode_CaseRanges), ("unicode/utf8.first", laid_unicode_utf8_first)] }
/-- NO THEOREM (fmt's text is open here; it may be false): for the released tool's asking of the row's closed facts alone. THE STATEMENT IS 'FnTakeParamsVerdictIgnoresOrderToldSaid' (Qxb6615051aFmtCards.lean). -/
def FnTakeParamsVerdictIgnoresOrderFormAsk : Prop := fnTakeParamsVerdictIgnoresOrderRow.holds Tryf.pinned (OpenSpec.ofChange fnTakeParamsVerdictIgnoresOrderSpec)

/-- ITS FALSE NEIGHBOUR: 'it returns false'. Refute it at one input. -/
def fnTakeParamsVerdictIgnoresOrderWrong : ChangeSpec := { name := "fnTakeParamsVerdictIgnoresOrder", fn := fun _ => fun
  | [d1, d2, d3, d4, d5] => { results := [.lit (.bool false)], args := [d1, d2, d3, d4, d5] }
  | _ => none }
def FnTakeParamsVerdictIgnoresOrderWrongFormAsk : Prop := fnTakeParamsVerdictIgnoresOrderRow.holds Tryf.pinned (OpenSpec.ofChange fnTakeParamsVerdictIgnoresOrderWrong)

end Rows
end Go.Proofs.Qxb6615051aFmt
