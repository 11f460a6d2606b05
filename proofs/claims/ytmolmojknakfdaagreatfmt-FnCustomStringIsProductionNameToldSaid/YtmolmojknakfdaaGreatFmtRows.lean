/-
  NARROWER THAN 'FOR EVERY INPUT', by the rows' own cells (each row's printed sentence says how): FnCustomStringIsProductionName: laid · FnCustomStringCapitalisesGoString: laid.
  DERIVED. THE GIVEN ROWS OF THIS SEAT. 3 by the template 'for every input the law returns true; each argument reads behind the call as it read before'; 0 by the template 'total and deterministic' (their statements: YtmolmojknakfdaaGreatFmtTotals.lean).
  GIVEN WITH THE SEED: the statements are not yours to turn. If you find one false, say at which input.
  Laid BY PROGRAM, IN A SANDBOX (cutbox-rows.mjs): the forced cells as the released guide's own fill.sh prints them over the translation e2190b49b928ab82… (all of the seat's roots in one cut). By AI agents, Wed Nov 11 2026. No macro, syntax, notation, axiom, sorry.
-/
import Derived.Test.YtmolmojknakfdaaGreatFmtChecked
import GoSem.PinnedTables
import GoSem.Claim
import GoSem.ClaimJoined
import GoSem.ClaimMapViews
import Derived.JoinedTies
import Derived.KernelRfl
namespace Go.Proofs.YtmolmojknakfdaaGreatFmt
/- THE CELL 'sum', in the pinned program and in every row, IS THE sha256 OF THE DUMP (.gsa) THAT YtmolmojknakfdaaGreatFmtProg.lean LOADS. Nothing in Lean hashes anything: it is a label: what it is worth is what the hold of that sum in a sandbox is worth. -/
noncomputable def Tryz.pinned : Pinned := { name := "ytmolmojknakfdaagreatfmt", sum := "e2190b49b928ab82a812587e5463465a339bffbb6577f8465ddbb53b001d6e41", checked := Tryz.checked }
namespace Rows
def none {H : Type} : Left H := { results := [], args := [] }

/- WHAT THE LISTED PACKAGE-LEVEL VARIABLES READ AS WHEN THE CALL BEGINS. Each datum BY PROGRAM (the guide's laid-datum.mjs) off the statement by which the dump's own 'gosem.cut.vars' lays the variable. In a bare row this is a premise. The card (YtmolmojknakfdaaGreatFmtCards.lean) ties it to the program's text. -/
def laid_unicode_utf8_acceptRanges {H : Type} : DataW H := .agg [.agg [.lit (.int .u8 128), .lit (.int .u8 191)], .agg [.lit (.int .u8 160), .lit (.int .u8 191)], .agg [.lit (.int .u8 128), .lit (.int .u8 159)], .agg [.lit (.int .u8 144), .lit (.int .u8 191)], .agg [.lit (.int .u8 128), .lit (.int .u8 143)], .agg [.lit (.int .u8 0), .lit (.int .u8 0)], .agg [.lit (.int .u8 0), .lit (.int .u8 0)], .agg [.lit (.int .u8 0), .lit (.int .u8 0)], .agg [.lit (.int .u8 0), .lit (.int .u8 0)], .agg [.lit (.int .u8 0), .lit (.int .u8 0)], .agg [.lit (.int .u8 0), .lit (.int .u8 0)], .agg [.lit (.int .u8 0), .lit (.int .u8 0)], .agg [.lit (.int .u8 0), .lit (.int .u8 0)], .agg [.lit (.int .u8 0), .lit (.int .u8 0)], .agg [.lit (.int .u8 0), .lit (.int .u8 0)], .agg [.lit (.int .u8 0), .lit (.int .u8 0)]]
/-- One of Go's own tables, pinned by name: the form's constant. -/
def laid_unicode_CaseRanges : DataW Unit := Go.Pinned.caseRanges
/-- One of Go's own tables, pinned by name: the form's constant. -/
def laid_unicode_utf8_first : DataW Unit := Go.Pinned.utf8First

/-- 'n025_21.FnCustomStringIsProductionName': WHATEVER THE INPUT: true; the input reads as it did. -/
def fnCustomStringIsProductionNameSpec : ChangeSpec := { name := "fnCustomStringIsProductionName", fn := fun _ => fun
  | [d] => { results := [.lit (.bool true)], args := [d] }
  | _ => none }
def fnCustomStringIsProductionNameRow : OpenClaim := { program := "ytmolmojknakfdaagreatfmt", sum := "e2190b49b928ab82a812587e5463465a339bffbb6577f8465ddbb53b001d6e41", func := "github.com/alecthomas/participle/v2/n025_21.FnCustomStringIsProductionName", spec := "fnCustomStringIsProductionName", stops := ["fmt.Sprintf, its operands' methods called"], inPlace := ["reflect.TypeOf", "internal/abi.NoEscape", "internal/bytealg.MakeNoZero", "fmt.Sprintf"], unfollowed := true, recurses := true, named := ["unicode/utf8.first", "unicode/utf8.acceptRanges", "unicode.CaseRanges"], make := .lifted ["reflectrows", "leanrows"], apart := false, laid := [("unicode/utf8.acceptRanges", laid_unicode_utf8_acceptRanges), ("unicode.CaseRanges", laid_unicode_CaseRanges), ("unicode/utf8.first", laid_unicode_utf8_first)] }
/-- NO THEOREM (fmt's text is open here; it may be false): for the released tool's asking of the row's closed facts alone. THE STATEMENT IS 'FnCustomStringIsProductionNameToldSaid' (YtmolmojknakfdaaGreatFmtCards.lean). -/
def FnCustomStringIsProductionNameFormAsk : Prop := fnCustomStringIsProductionNameRow.holds Tryz.pinned (OpenSpec.ofChange fnCustomStringIsProductionNameSpec)

/-- ITS FALSE NEIGHBOUR: 'it returns false'. Refute it at one input. -/
def fnCustomStringIsProductionNameWrong : ChangeSpec := { name := "fnCustomStringIsProductionName", fn := fun _ => fun
  | [d] => { results := [.lit (.bool false)], args := [d] }
  | _ => none }
def FnCustomStringIsProductionNameWrongFormAsk : Prop := fnCustomStringIsProductionNameRow.holds Tryz.pinned (OpenSpec.ofChange fnCustomStringIsProductionNameWrong)

/-- 'n025_21.FnParseableGoStringIsQualifiedType': WHATEVER THE INPUT: true; the input reads as it did. -/
def fnParseableGoStringIsQualifiedTypeSpec : ChangeSpec := { name := "fnParseableGoStringIsQualifiedType", fn := fun _ => fun
  | [d] => { results := [.lit (.bool true)], args := [d] }
  | _ => none }
def fnParseableGoStringIsQualifiedTypeRow : OpenClaim := { program := "ytmolmojknakfdaagreatfmt", sum := "e2190b49b928ab82a812587e5463465a339bffbb6577f8465ddbb53b001d6e41", func := "github.com/alecthomas/participle/v2/n025_21.FnParseableGoStringIsQualifiedType", spec := "fnParseableGoStringIsQualifiedType", stops := ["fmt.Sprintf, its operands' methods called"], inPlace := ["reflect.TypeOf"], unfollowed := true, recurses := true, make := .lifted ["reflectrows", "leanrows"], apart := false }
/-- NO THEOREM (fmt's text is open here; it may be false): for the released tool's asking of the row's closed facts alone. THE STATEMENT IS 'FnParseableGoStringIsQualifiedTypeToldSaid' (YtmolmojknakfdaaGreatFmtCards.lean). -/
def FnParseableGoStringIsQualifiedTypeFormAsk : Prop := fnParseableGoStringIsQualifiedTypeRow.holds Tryz.pinned (OpenSpec.ofChange fnParseableGoStringIsQualifiedTypeSpec)

/-- ITS FALSE NEIGHBOUR: 'it returns false'. Refute it at one input. -/
def fnParseableGoStringIsQualifiedTypeWrong : ChangeSpec := { name := "fnParseableGoStringIsQualifiedType", fn := fun _ => fun
  | [d] => { results := [.lit (.bool false)], args := [d] }
  | _ => none }
def FnParseableGoStringIsQualifiedTypeWrongFormAsk : Prop := fnParseableGoStringIsQualifiedTypeRow.holds Tryz.pinned (OpenSpec.ofChange fnParseableGoStringIsQualifiedTypeWrong)

/-- 'n025_21.FnCustomStringCapitalisesGoString': WHATEVER THE INPUT: true; the input reads as it did. -/
def fnCustomStringCapitalisesGoStringSpec : ChangeSpec := { name := "fnCustomStringCapitalisesGoString", fn := fun _ => fun
  | [d] => { results := [.lit (.bool true)], args := [d] }
  | _ => none }
def fnCustomStringCapitalisesGoStringRow : OpenClaim := { program := "ytmolmojknakfdaagreatfmt", sum := "e2190b49b928ab82a812587e5463465a339bffbb6577f8465ddbb53b001d6e41", func := "github.com/alecthomas/participle/v2/n025_21.FnCustomStringCapitalisesGoString", spec := "fnCustomStringCapitalisesGoString", stops := ["fmt.Sprintf, its operands' methods called"], inPlace := ["reflect.TypeOf", "internal/abi.NoEscape", "internal/bytealg.MakeNoZero", "fmt.Sprintf"], unfollowed := true, recurses := true, named := ["unicode/utf8.first", "unicode/utf8.acceptRanges", "unicode.CaseRanges"], make := .lifted ["reflectrows", "leanrows"], apart := false, laid := [("unicode/utf8.acceptRanges", laid_unicode_utf8_acceptRanges), ("unicode.CaseRanges", laid_unicode_CaseRanges), ("unicode/utf8.first", laid_unicode_utf8_first)] }
/-- NO THEOREM (fmt's text is open here; it may be false): for the released tool's asking of the row's closed facts alone. THE STATEMENT IS 'FnCustomStringCapitalisesGoStringToldSaid' (YtmolmojknakfdaaGreatFmtCards.lean). -/
def FnCustomStringCapitalisesGoStringFormAsk : Prop := fnCustomStringCapitalisesGoStringRow.holds Tryz.pinned (OpenSpec.ofChange fnCustomStringCapitalisesGoStringSpec)

/-- ITS FALSE NEIGHBOUR: 'it returns false'. Refute it at one input. -/
def fnCustomStringCapitalisesGoStringWrong : ChangeSpec := { name := "fnCustomStringCapitalisesGoString", fn := fun _ => fun
  | [d] => { results := [.lit (.bool false)], args := [d] }
  | _ => none }
def FnCustomStringCapitalisesGoStringWrongFormAsk : Prop := fnCustomStringCapitalisesGoStringRow.holds Tryz.pinned (OpenSpec.ofChange fnCustomStringCapitalisesGoStringWrong)

end Rows
end Go.Proofs.YtmolmojknakfdaaGreatFmt
