/-
  NARROWER THAN 'FOR EVERY INPUT', by the rows' own cells (each row's printed sentence says how): FnLiteralGoStringAgreesWithString: laid · FnLiteralStringDecodesBack: laid · FnLookaheadStringOverAlternatives: laid · FnLookaheadStringOverLiteral: laid · FnLiteralStringQuotesASCIIExactly: laid.
  DERIVED. THE GIVEN ROWS OF THIS SEAT. 5 by the template 'for every input the law returns true; each argument reads behind the call as it read before'; 0 by the template 'total and deterministic' (their statements: YtiofodmlgneieaaGreatFmtTotals.lean).
  GIVEN WITH THE SEED: the statements are not yours to turn. If you find one false, say at which input.
  Laid BY PROGRAM, IN A SANDBOX (cutbox-rows.mjs): the forced cells as the released guide's own fill.sh prints them over the translation e3617423f3094f45… (all of the seat's roots in one cut). By AI agents, Wed Nov 11 2026. No macro, syntax, notation, axiom, sorry.
-/
import Derived.Test.YtiofodmlgneieaaGreatFmtChecked
import GoSem.PinnedTables
import GoSem.Claim
import GoSem.ClaimJoined
import GoSem.ClaimMapViews
import Derived.JoinedTies
import Derived.KernelRfl
namespace Go.Proofs.YtiofodmlgneieaaGreatFmt
/- THE CELL 'sum', in the pinned program and in every row, IS THE sha256 OF THE DUMP (.gsa) THAT YtiofodmlgneieaaGreatFmtProg.lean LOADS. Nothing in Lean hashes anything: it is a label: what it is worth is what the hold of that sum in a sandbox is worth. -/
noncomputable def Tryz.pinned : Pinned := { name := "ytiofodmlgneieaagreatfmt", sum := "e3617423f3094f45a3a6f91421a365ca4d7d68d5bd7ca25fd7d4ee58e19b5bd1", checked := Tryz.checked }
namespace Rows
def none {H : Type} : Left H := { results := [], args := [] }

/- WHAT THE LISTED PACKAGE-LEVEL VARIABLES READ AS WHEN THE CALL BEGINS. Each datum BY PROGRAM (the guide's laid-datum.mjs) off the statement by which the dump's own 'gosem.cut.vars' lays the variable. In a bare row this is a premise. The card (YtiofodmlgneieaaGreatFmtCards.lean) ties it to the program's text. -/
def laid_unicode_utf8_acceptRanges {H : Type} : DataW H := .agg [.agg [.lit (.int .u8 128), .lit (.int .u8 191)], .agg [.lit (.int .u8 160), .lit (.int .u8 191)], .agg [.lit (.int .u8 128), .lit (.int .u8 159)], .agg [.lit (.int .u8 144), .lit (.int .u8 191)], .agg [.lit (.int .u8 128), .lit (.int .u8 143)], .agg [.lit (.int .u8 0), .lit (.int .u8 0)], .agg [.lit (.int .u8 0), .lit (.int .u8 0)], .agg [.lit (.int .u8 0), .lit (.int .u8 0)], .agg [.lit (.int .u8 0), .lit (.int .u8 0)], .agg [.lit (.int .u8 0), .lit (.int .u8 0)], .agg [.lit (.int .u8 0), .lit (.int .u8 0)], .agg [.lit (.int .u8 0), .lit (.int .u8 0)], .agg [.lit (.int .u8 0), .lit (.int .u8 0)], .agg [.lit (.int .u8 0), .lit (.int .u8 0)], .agg [.lit (.int .u8 0), .lit (.int .u8 0)], .agg [.lit (.int .u8 0), .lit (.int .u8 0)]]
/-- One of Go's own tables, pinned by name: the form's constant. -/
def laid_unicode_CaseRanges : DataW Unit := Go.Pinned.caseRanges
/-- One of Go's own tables, pinned by name: the form's constant. -/
def laid_unicode_utf8_first : DataW Unit := Go.Pinned.utf8First

/-- 'n025_45.FnLiteralGoStringAgreesWithString': WHATEVER THE INPUT: true; the input reads as it did. -/
def fnLiteralGoStringAgreesWithStringSpec : ChangeSpec := { name := "fnLiteralGoStringAgreesWithString", fn := fun _ => fun
  | [d1, d2, d3] => { results := [.lit (.bool true)], args := [d1, d2, d3] }
  | _ => none }
def fnLiteralGoStringAgreesWithStringRow : OpenClaim := { program := "ytiofodmlgneieaagreatfmt", sum := "e3617423f3094f45a3a6f91421a365ca4d7d68d5bd7ca25fd7d4ee58e19b5bd1", func := "github.com/alecthomas/participle/v2/n025_45.FnLiteralGoStringAgreesWithString", spec := "fnLiteralGoStringAgreesWithString", stops := ["fmt.Sprintf, its operands' methods called"], inPlace := ["fmt.Sprintf", "internal/abi.NoEscape", "internal/bytealg.MakeNoZero"], unfollowed := true, recurses := true, named := ["unicode/utf8.first", "unicode/utf8.acceptRanges", "unicode.CaseRanges"], make := .lifted ["reflectrows", "leanrows"], apart := false, laid := [("unicode/utf8.acceptRanges", laid_unicode_utf8_acceptRanges), ("unicode.CaseRanges", laid_unicode_CaseRanges), ("unicode/utf8.first", laid_unicode_utf8_first)] }
/-- NO THEOREM (fmt's text is open here; it may be false): for the released tool's asking of the row's closed facts alone. THE STATEMENT IS 'FnLiteralGoStringAgreesWithStringToldSaid' (YtiofodmlgneieaaGreatFmtCards.lean). -/
def FnLiteralGoStringAgreesWithStringFormAsk : Prop := fnLiteralGoStringAgreesWithStringRow.holds Tryz.pinned (OpenSpec.ofChange fnLiteralGoStringAgreesWithStringSpec)

/-- ITS FALSE NEIGHBOUR: 'it returns false'. Refute it at one input. -/
def fnLiteralGoStringAgreesWithStringWrong : ChangeSpec := { name := "fnLiteralGoStringAgreesWithString", fn := fun _ => fun
  | [d1, d2, d3] => { results := [.lit (.bool false)], args := [d1, d2, d3] }
  | _ => none }
def FnLiteralGoStringAgreesWithStringWrongFormAsk : Prop := fnLiteralGoStringAgreesWithStringRow.holds Tryz.pinned (OpenSpec.ofChange fnLiteralGoStringAgreesWithStringWrong)

/-- 'n025_45.FnLiteralStringDecodesBack': WHATEVER THE INPUT: true; the input reads as it did. -/
def fnLiteralStringDecodesBackSpec : ChangeSpec := { name := "fnLiteralStringDecodesBack", fn := fun _ => fun
  | [d1, d2, d3] => { results := [.lit (.bool true)], args := [d1, d2, d3] }
  | _ => none }
def fnLiteralStringDecodesBackRow : OpenClaim := { program := "ytiofodmlgneieaagreatfmt", sum := "e3617423f3094f45a3a6f91421a365ca4d7d68d5bd7ca25fd7d4ee58e19b5bd1", func := "github.com/alecthomas/participle/v2/n025_45.FnLiteralStringDecodesBack", spec := "fnLiteralStringDecodesBack", stops := ["fmt.Sprintf, its operands' methods called"], inPlace := ["internal/abi.NoEscape", "internal/bytealg.MakeNoZero", "fmt.Sprintf"], unfollowed := true, recurses := true, named := ["unicode/utf8.first", "unicode/utf8.acceptRanges", "unicode.CaseRanges"], make := .lifted ["reflectrows", "leanrows"], apart := false, laid := [("unicode/utf8.acceptRanges", laid_unicode_utf8_acceptRanges), ("unicode.CaseRanges", laid_unicode_CaseRanges), ("unicode/utf8.first", laid_unicode_utf8_first)] }
/-- NO THEOREM (fmt's text is open here; it may be false): for the released tool's asking of the row's closed facts alone. THE STATEMENT IS 'FnLiteralStringDecodesBackToldSaid' (YtiofodmlgneieaaGreatFmtCards.lean). -/
def FnLiteralStringDecodesBackFormAsk : Prop := fnLiteralStringDecodesBackRow.holds Tryz.pinned (OpenSpec.ofChange fnLiteralStringDecodesBackSpec)

/-- ITS FALSE NEIGHBOUR: 'it returns false'. Refute it at one input. -/
def fnLiteralStringDecodesBackWrong : ChangeSpec := { name := "fnLiteralStringDecodesBack", fn := fun _ => fun
  | [d1, d2, d3] => { results := [.lit (.bool false)], args := [d1, d2, d3] }
  | _ => none }
def FnLiteralStringDecodesBackWrongFormAsk : Prop := fnLiteralStringDecodesBackRow.holds Tryz.pinned (OpenSpec.ofChange fnLiteralStringDecodesBackWrong)

/-- 'n025_27.FnLookaheadStringOverAlternatives': WHATEVER THE INPUT: true; the input reads as it did. -/
def fnLookaheadStringOverAlternativesSpec : ChangeSpec := { name := "fnLookaheadStringOverAlternatives", fn := fun _ => fun
  | [d1, d2, d3] => { results := [.lit (.bool true)], args := [d1, d2, d3] }
  | _ => none }
def fnLookaheadStringOverAlternativesRow : OpenClaim := { program := "ytiofodmlgneieaagreatfmt", sum := "e3617423f3094f45a3a6f91421a365ca4d7d68d5bd7ca25fd7d4ee58e19b5bd1", func := "github.com/alecthomas/participle/v2/n025_27.FnLookaheadStringOverAlternatives", spec := "fnLookaheadStringOverAlternatives", stops := ["fmt.Sprintf, its operands' methods called"], inPlace := ["internal/abi.NoEscape", "internal/bytealg.MakeNoZero", "fmt.Sprintf"], unfollowed := true, recurses := true, named := ["unicode/utf8.first", "unicode/utf8.acceptRanges", "unicode.CaseRanges"], make := .lifted ["reflectrows", "leanrows"], apart := false, laid := [("unicode/utf8.acceptRanges", laid_unicode_utf8_acceptRanges), ("unicode.CaseRanges", laid_unicode_CaseRanges), ("unicode/utf8.first", laid_unicode_utf8_first)] }
/-- NO THEOREM (fmt's text is open here; it may be false): for the released tool's asking of the row's closed facts alone. THE STATEMENT IS 'FnLookaheadStringOverAlternativesToldSaid' (YtiofodmlgneieaaGreatFmtCards.lean). -/
def FnLookaheadStringOverAlternativesFormAsk : Prop := fnLookaheadStringOverAlternativesRow.holds Tryz.pinned (OpenSpec.ofChange fnLookaheadStringOverAlternativesSpec)

/-- ITS FALSE NEIGHBOUR: 'it returns false'. Refute it at one input. -/
def fnLookaheadStringOverAlternativesWrong : ChangeSpec := { name := "fnLookaheadStringOverAlternatives", fn := fun _ => fun
  | [d1, d2, d3] => { results := [.lit (.bool false)], args := [d1, d2, d3] }
  | _ => none }
def FnLookaheadStringOverAlternativesWrongFormAsk : Prop := fnLookaheadStringOverAlternativesRow.holds Tryz.pinned (OpenSpec.ofChange fnLookaheadStringOverAlternativesWrong)

/-- 'n025_27.FnLookaheadStringOverLiteral': WHATEVER THE INPUT: true; the input reads as it did. -/
def fnLookaheadStringOverLiteralSpec : ChangeSpec := { name := "fnLookaheadStringOverLiteral", fn := fun _ => fun
  | [d1, d2] => { results := [.lit (.bool true)], args := [d1, d2] }
  | _ => none }
def fnLookaheadStringOverLiteralRow : OpenClaim := { program := "ytiofodmlgneieaagreatfmt", sum := "e3617423f3094f45a3a6f91421a365ca4d7d68d5bd7ca25fd7d4ee58e19b5bd1", func := "github.com/alecthomas/participle/v2/n025_27.FnLookaheadStringOverLiteral", spec := "fnLookaheadStringOverLiteral", stops := ["fmt.Sprintf, its operands' methods called"], inPlace := ["internal/abi.NoEscape", "internal/bytealg.MakeNoZero", "fmt.Sprintf"], unfollowed := true, recurses := true, named := ["unicode/utf8.first", "unicode/utf8.acceptRanges", "unicode.CaseRanges"], make := .lifted ["reflectrows", "leanrows"], apart := false, laid := [("unicode/utf8.acceptRanges", laid_unicode_utf8_acceptRanges), ("unicode.CaseRanges", laid_unicode_CaseRanges), ("unicode/utf8.first", laid_unicode_utf8_first)] }
/-- NO THEOREM (fmt's text is open here; it may be false): for the released tool's asking of the row's closed facts alone. THE STATEMENT IS 'FnLookaheadStringOverLiteralToldSaid' (YtiofodmlgneieaaGreatFmtCards.lean). -/
def FnLookaheadStringOverLiteralFormAsk : Prop := fnLookaheadStringOverLiteralRow.holds Tryz.pinned (OpenSpec.ofChange fnLookaheadStringOverLiteralSpec)

/-- ITS FALSE NEIGHBOUR: 'it returns false'. Refute it at one input. -/
def fnLookaheadStringOverLiteralWrong : ChangeSpec := { name := "fnLookaheadStringOverLiteral", fn := fun _ => fun
  | [d1, d2] => { results := [.lit (.bool false)], args := [d1, d2] }
  | _ => none }
def FnLookaheadStringOverLiteralWrongFormAsk : Prop := fnLookaheadStringOverLiteralRow.holds Tryz.pinned (OpenSpec.ofChange fnLookaheadStringOverLiteralWrong)

/-- 'n025_45.FnLiteralStringQuotesASCIIExactly': WHATEVER THE INPUT: true; the input reads as it did. -/
def fnLiteralStringQuotesASCIIExactlySpec : ChangeSpec := { name := "fnLiteralStringQuotesASCIIExactly", fn := fun _ => fun
  | [d1, d2, d3] => { results := [.lit (.bool true)], args := [d1, d2, d3] }
  | _ => none }
def fnLiteralStringQuotesASCIIExactlyRow : OpenClaim := { program := "ytiofodmlgneieaagreatfmt", sum := "e3617423f3094f45a3a6f91421a365ca4d7d68d5bd7ca25fd7d4ee58e19b5bd1", func := "github.com/alecthomas/participle/v2/n025_45.FnLiteralStringQuotesASCIIExactly", spec := "fnLiteralStringQuotesASCIIExactly", stops := ["fmt.Sprintf, its operands' methods called"], inPlace := ["internal/abi.NoEscape", "internal/bytealg.MakeNoZero", "fmt.Sprintf"], unfollowed := true, recurses := true, named := ["unicode/utf8.first", "unicode/utf8.acceptRanges", "unicode.CaseRanges"], make := .lifted ["reflectrows", "leanrows"], apart := false, laid := [("unicode/utf8.acceptRanges", laid_unicode_utf8_acceptRanges), ("unicode.CaseRanges", laid_unicode_CaseRanges), ("unicode/utf8.first", laid_unicode_utf8_first)] }
/-- NO THEOREM (fmt's text is open here; it may be false): for the released tool's asking of the row's closed facts alone. THE STATEMENT IS 'FnLiteralStringQuotesASCIIExactlyToldSaid' (YtiofodmlgneieaaGreatFmtCards.lean). -/
def FnLiteralStringQuotesASCIIExactlyFormAsk : Prop := fnLiteralStringQuotesASCIIExactlyRow.holds Tryz.pinned (OpenSpec.ofChange fnLiteralStringQuotesASCIIExactlySpec)

/-- ITS FALSE NEIGHBOUR: 'it returns false'. Refute it at one input. -/
def fnLiteralStringQuotesASCIIExactlyWrong : ChangeSpec := { name := "fnLiteralStringQuotesASCIIExactly", fn := fun _ => fun
  | [d1, d2, d3] => { results := [.lit (.bool false)], args := [d1, d2, d3] }
  | _ => none }
def FnLiteralStringQuotesASCIIExactlyWrongFormAsk : Prop := fnLiteralStringQuotesASCIIExactlyRow.holds Tryz.pinned (OpenSpec.ofChange fnLiteralStringQuotesASCIIExactlyWrong)

end Rows
end Go.Proofs.YtiofodmlgneieaaGreatFmt
