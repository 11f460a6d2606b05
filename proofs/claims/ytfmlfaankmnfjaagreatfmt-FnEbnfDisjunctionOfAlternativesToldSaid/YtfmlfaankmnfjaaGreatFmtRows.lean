/-
  NARROWER THAN 'FOR EVERY INPUT', by the rows' own cells (each row's printed sentence says how): FnEbnfDisjunctionOfAlternatives: laid · FnCustomStringCapitalisesGoString: laid.
  DERIVED. THE GIVEN ROWS OF THIS SEAT. 2 by the template 'for every input the law returns true; each argument reads behind the call as it read before'; 0 by the template 'total and deterministic' (their statements: YtfmlfaankmnfjaaGreatFmtTotals.lean).
  GIVEN WITH THE SEED: the statements are not yours to turn. If you find one false, say at which input.
  Laid BY PROGRAM, IN A SANDBOX (cutbox-rows.mjs): the forced cells as the released guide's own fill.sh prints them over the translation b9b6367f193ab1fb… (all of the seat's roots in one cut). By AI agents, Wed Nov 11 2026. No macro, syntax, notation, axiom, sorry.
-/
import Derived.Test.YtfmlfaankmnfjaaGreatFmtChecked
import GoSem.PinnedTables
import GoSem.Claim
import GoSem.ClaimJoined
import GoSem.ClaimMapViews
import Derived.JoinedTies
import Derived.KernelRfl
namespace Go.Proofs.YtfmlfaankmnfjaaGreatFmt
/- THE CELL 'sum', in the pinned program and in every row, IS THE sha256 OF THE DUMP (.gsa) THAT YtfmlfaankmnfjaaGreatFmtProg.lean LOADS. Nothing in Lean hashes anything: it is a label: what it is worth is what the hold of that sum in a sandbox is worth. -/
noncomputable def Tryz.pinned : Pinned := { name := "ytfmlfaankmnfjaagreatfmt", sum := "b9b6367f193ab1fbdde1b3d049dc26192ac5d186a787136dc82d07f270ea969b", checked := Tryz.checked }
namespace Rows
def none {H : Type} : Left H := { results := [], args := [] }

/- WHAT THE LISTED PACKAGE-LEVEL VARIABLES READ AS WHEN THE CALL BEGINS. Each datum BY PROGRAM (the guide's laid-datum.mjs) off the statement by which the dump's own 'gosem.cut.vars' lays the variable. In a bare row this is a premise. The card (YtfmlfaankmnfjaaGreatFmtCards.lean) ties it to the program's text. -/
def laid_unicode_utf8_acceptRanges {H : Type} : DataW H := .agg [.agg [.lit (.int .u8 128), .lit (.int .u8 191)], .agg [.lit (.int .u8 160), .lit (.int .u8 191)], .agg [.lit (.int .u8 128), .lit (.int .u8 159)], .agg [.lit (.int .u8 144), .lit (.int .u8 191)], .agg [.lit (.int .u8 128), .lit (.int .u8 143)], .agg [.lit (.int .u8 0), .lit (.int .u8 0)], .agg [.lit (.int .u8 0), .lit (.int .u8 0)], .agg [.lit (.int .u8 0), .lit (.int .u8 0)], .agg [.lit (.int .u8 0), .lit (.int .u8 0)], .agg [.lit (.int .u8 0), .lit (.int .u8 0)], .agg [.lit (.int .u8 0), .lit (.int .u8 0)], .agg [.lit (.int .u8 0), .lit (.int .u8 0)], .agg [.lit (.int .u8 0), .lit (.int .u8 0)], .agg [.lit (.int .u8 0), .lit (.int .u8 0)], .agg [.lit (.int .u8 0), .lit (.int .u8 0)], .agg [.lit (.int .u8 0), .lit (.int .u8 0)]]
/-- One of Go's own tables, pinned by name: the form's constant. -/
def laid_unicode_CaseRanges : DataW Unit := Go.Pinned.caseRanges
/-- One of Go's own tables, pinned by name: the form's constant. -/
def laid_unicode_utf8_first : DataW Unit := Go.Pinned.utf8First

/-- 'n025_51.FnEbnfDisjunctionOfAlternatives': WHATEVER THE INPUT: true; the input reads as it did. -/
def fnEbnfDisjunctionOfAlternativesSpec : ChangeSpec := { name := "fnEbnfDisjunctionOfAlternatives", fn := fun _ => fun
  | [d] => { results := [.lit (.bool true)], args := [d] }
  | _ => none }
def fnEbnfDisjunctionOfAlternativesRow : OpenClaim := { program := "ytfmlfaankmnfjaagreatfmt", sum := "b9b6367f193ab1fbdde1b3d049dc26192ac5d186a787136dc82d07f270ea969b", func := "github.com/alecthomas/participle/v2/n025_51.FnEbnfDisjunctionOfAlternatives", spec := "fnEbnfDisjunctionOfAlternatives", stops := ["fmt.Sprintf, its operands' methods called"], inPlace := ["internal/abi.NoEscape", "internal/bytealg.MakeNoZero", "fmt.Sprintf"], unfollowed := true, recurses := true, named := ["unicode/utf8.first", "unicode/utf8.acceptRanges", "unicode.CaseRanges"], make := .lifted ["reflectrows", "leanrows"], apart := false, laid := [("unicode/utf8.acceptRanges", laid_unicode_utf8_acceptRanges), ("unicode.CaseRanges", laid_unicode_CaseRanges), ("unicode/utf8.first", laid_unicode_utf8_first)] }
/-- NO THEOREM (fmt's text is open here; it may be false): for the released tool's asking of the row's closed facts alone. THE STATEMENT IS 'FnEbnfDisjunctionOfAlternativesToldSaid' (YtfmlfaankmnfjaaGreatFmtCards.lean). -/
def FnEbnfDisjunctionOfAlternativesFormAsk : Prop := fnEbnfDisjunctionOfAlternativesRow.holds Tryz.pinned (OpenSpec.ofChange fnEbnfDisjunctionOfAlternativesSpec)

/-- ITS FALSE NEIGHBOUR: 'it returns false'. Refute it at one input. -/
def fnEbnfDisjunctionOfAlternativesWrong : ChangeSpec := { name := "fnEbnfDisjunctionOfAlternatives", fn := fun _ => fun
  | [d] => { results := [.lit (.bool false)], args := [d] }
  | _ => none }
def FnEbnfDisjunctionOfAlternativesWrongFormAsk : Prop := fnEbnfDisjunctionOfAlternativesRow.holds Tryz.pinned (OpenSpec.ofChange fnEbnfDisjunctionOfAlternativesWrong)

/-- 'n025_21.FnCustomStringCapitalisesGoString': WHATEVER THE INPUT: true; the input reads as it did. -/
def fnCustomStringCapitalisesGoStringSpec : ChangeSpec := { name := "fnCustomStringCapitalisesGoString", fn := fun _ => fun
  | [d] => { results := [.lit (.bool true)], args := [d] }
  | _ => none }
def fnCustomStringCapitalisesGoStringRow : OpenClaim := { program := "ytfmlfaankmnfjaagreatfmt", sum := "b9b6367f193ab1fbdde1b3d049dc26192ac5d186a787136dc82d07f270ea969b", func := "github.com/alecthomas/participle/v2/n025_21.FnCustomStringCapitalisesGoString", spec := "fnCustomStringCapitalisesGoString", stops := ["fmt.Sprintf, its operands' methods called"], inPlace := ["reflect.TypeOf", "internal/abi.NoEscape", "internal/bytealg.MakeNoZero", "fmt.Sprintf"], unfollowed := true, recurses := true, named := ["unicode/utf8.first", "unicode/utf8.acceptRanges", "unicode.CaseRanges"], make := .lifted ["reflectrows", "leanrows"], apart := false, laid := [("unicode/utf8.acceptRanges", laid_unicode_utf8_acceptRanges), ("unicode.CaseRanges", laid_unicode_CaseRanges), ("unicode/utf8.first", laid_unicode_utf8_first)] }
/-- NO THEOREM (fmt's text is open here; it may be false): for the released tool's asking of the row's closed facts alone. THE STATEMENT IS 'FnCustomStringCapitalisesGoStringToldSaid' (YtfmlfaankmnfjaaGreatFmtCards.lean). -/
def FnCustomStringCapitalisesGoStringFormAsk : Prop := fnCustomStringCapitalisesGoStringRow.holds Tryz.pinned (OpenSpec.ofChange fnCustomStringCapitalisesGoStringSpec)

/-- ITS FALSE NEIGHBOUR: 'it returns false'. Refute it at one input. -/
def fnCustomStringCapitalisesGoStringWrong : ChangeSpec := { name := "fnCustomStringCapitalisesGoString", fn := fun _ => fun
  | [d] => { results := [.lit (.bool false)], args := [d] }
  | _ => none }
def FnCustomStringCapitalisesGoStringWrongFormAsk : Prop := fnCustomStringCapitalisesGoStringRow.holds Tryz.pinned (OpenSpec.ofChange fnCustomStringCapitalisesGoStringWrong)

end Rows
end Go.Proofs.YtfmlfaankmnfjaaGreatFmt
