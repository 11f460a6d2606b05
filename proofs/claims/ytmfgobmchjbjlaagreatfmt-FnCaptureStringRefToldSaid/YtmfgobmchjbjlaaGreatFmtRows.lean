/-
  NARROWER THAN 'FOR EVERY INPUT', by the rows' own cells (each row's printed sentence says how): FnGroupStringTable: laid · FnCaptureStringRef: laid · FnCaptureStringGroup: laid.
  DERIVED. THE GIVEN ROWS OF THIS SEAT. 3 by the template 'for every input the law returns true; each argument reads behind the call as it read before'; 0 by the template 'total and deterministic' (their statements: YtmfgobmchjbjlaaGreatFmtTotals.lean).
  GIVEN WITH THE SEED: the statements are not yours to turn. If you find one false, say at which input.
  Laid BY PROGRAM, IN A SANDBOX (cutbox-rows.mjs): the forced cells as the released guide's own fill.sh prints them over the translation b296e3a190d98b3f… (all of the seat's roots in one cut). By AI agents, Wed Nov 11 2026. No macro, syntax, notation, axiom, sorry.
-/
import Derived.Test.YtmfgobmchjbjlaaGreatFmtChecked
import GoSem.PinnedTables
import GoSem.Claim
import GoSem.ClaimJoined
import GoSem.ClaimMapViews
import Derived.JoinedTies
import Derived.KernelRfl
namespace Go.Proofs.YtmfgobmchjbjlaaGreatFmt
/- THE CELL 'sum', in the pinned program and in every row, IS THE sha256 OF THE DUMP (.gsa) THAT YtmfgobmchjbjlaaGreatFmtProg.lean LOADS. Nothing in Lean hashes anything: it is a label: what it is worth is what the hold of that sum in a sandbox is worth. -/
noncomputable def Tryz.pinned : Pinned := { name := "ytmfgobmchjbjlaagreatfmt", sum := "b296e3a190d98b3f2551c27b03caba68558575effa354b00d0e09d7d8af474a2", checked := Tryz.checked }
namespace Rows
def none {H : Type} : Left H := { results := [], args := [] }

/- WHAT THE LISTED PACKAGE-LEVEL VARIABLES READ AS WHEN THE CALL BEGINS. Each datum BY PROGRAM (the guide's laid-datum.mjs) off the statement by which the dump's own 'gosem.cut.vars' lays the variable. In a bare row this is a premise. The card (YtmfgobmchjbjlaaGreatFmtCards.lean) ties it to the program's text. -/
def laid_unicode_utf8_acceptRanges {H : Type} : DataW H := .agg [.agg [.lit (.int .u8 128), .lit (.int .u8 191)], .agg [.lit (.int .u8 160), .lit (.int .u8 191)], .agg [.lit (.int .u8 128), .lit (.int .u8 159)], .agg [.lit (.int .u8 144), .lit (.int .u8 191)], .agg [.lit (.int .u8 128), .lit (.int .u8 143)], .agg [.lit (.int .u8 0), .lit (.int .u8 0)], .agg [.lit (.int .u8 0), .lit (.int .u8 0)], .agg [.lit (.int .u8 0), .lit (.int .u8 0)], .agg [.lit (.int .u8 0), .lit (.int .u8 0)], .agg [.lit (.int .u8 0), .lit (.int .u8 0)], .agg [.lit (.int .u8 0), .lit (.int .u8 0)], .agg [.lit (.int .u8 0), .lit (.int .u8 0)], .agg [.lit (.int .u8 0), .lit (.int .u8 0)], .agg [.lit (.int .u8 0), .lit (.int .u8 0)], .agg [.lit (.int .u8 0), .lit (.int .u8 0)], .agg [.lit (.int .u8 0), .lit (.int .u8 0)]]
/-- One of Go's own tables, pinned by name: the form's constant. -/
def laid_unicode_CaseRanges : DataW Unit := Go.Pinned.caseRanges
/-- One of Go's own tables, pinned by name: the form's constant. -/
def laid_unicode_utf8_first : DataW Unit := Go.Pinned.utf8First

/-- 'n025_16.FnGroupStringTable': WHATEVER THE INPUT: true; the input reads as it did. -/
def fnGroupStringTableSpec : ChangeSpec := { name := "fnGroupStringTable", fn := fun _ => fun
  | [d1, d2] => { results := [.lit (.bool true)], args := [d1, d2] }
  | _ => none }
def fnGroupStringTableRow : OpenClaim := { program := "ytmfgobmchjbjlaagreatfmt", sum := "b296e3a190d98b3f2551c27b03caba68558575effa354b00d0e09d7d8af474a2", func := "github.com/alecthomas/participle/v2/n025_16.FnGroupStringTable", spec := "fnGroupStringTable", stops := ["fmt.Sprintf, its operands' methods called"], inPlace := ["internal/abi.NoEscape", "internal/bytealg.MakeNoZero", "fmt.Sprintf"], unfollowed := true, recurses := true, named := ["unicode/utf8.first", "unicode/utf8.acceptRanges", "unicode.CaseRanges"], make := .lifted ["reflectrows", "leanrows"], apart := false, laid := [("unicode/utf8.acceptRanges", laid_unicode_utf8_acceptRanges), ("unicode.CaseRanges", laid_unicode_CaseRanges), ("unicode/utf8.first", laid_unicode_utf8_first)] }
/-- NO THEOREM (fmt's text is open here; it may be false): for the released tool's asking of the row's closed facts alone. THE STATEMENT IS 'FnGroupStringTableToldSaid' (YtmfgobmchjbjlaaGreatFmtCards.lean). -/
def FnGroupStringTableFormAsk : Prop := fnGroupStringTableRow.holds Tryz.pinned (OpenSpec.ofChange fnGroupStringTableSpec)

/-- ITS FALSE NEIGHBOUR: 'it returns false'. Refute it at one input. -/
def fnGroupStringTableWrong : ChangeSpec := { name := "fnGroupStringTable", fn := fun _ => fun
  | [d1, d2] => { results := [.lit (.bool false)], args := [d1, d2] }
  | _ => none }
def FnGroupStringTableWrongFormAsk : Prop := fnGroupStringTableRow.holds Tryz.pinned (OpenSpec.ofChange fnGroupStringTableWrong)

/-- 'n025_26.FnCaptureStringRef': WHATEVER THE INPUT: true; the input reads as it did. -/
def fnCaptureStringRefSpec : ChangeSpec := { name := "fnCaptureStringRef", fn := fun _ => fun
  | [d] => { results := [.lit (.bool true)], args := [d] }
  | _ => none }
def fnCaptureStringRefRow : OpenClaim := { program := "ytmfgobmchjbjlaagreatfmt", sum := "b296e3a190d98b3f2551c27b03caba68558575effa354b00d0e09d7d8af474a2", func := "github.com/alecthomas/participle/v2/n025_26.FnCaptureStringRef", spec := "fnCaptureStringRef", stops := ["fmt.Sprintf, its operands' methods called"], inPlace := ["internal/abi.NoEscape", "internal/bytealg.MakeNoZero", "fmt.Sprintf"], unfollowed := true, recurses := true, named := ["unicode/utf8.first", "unicode/utf8.acceptRanges", "unicode.CaseRanges"], make := .lifted ["reflectrows", "leanrows"], apart := false, laid := [("unicode/utf8.acceptRanges", laid_unicode_utf8_acceptRanges), ("unicode.CaseRanges", laid_unicode_CaseRanges), ("unicode/utf8.first", laid_unicode_utf8_first)] }
/-- NO THEOREM (fmt's text is open here; it may be false): for the released tool's asking of the row's closed facts alone. THE STATEMENT IS 'FnCaptureStringRefToldSaid' (YtmfgobmchjbjlaaGreatFmtCards.lean). -/
def FnCaptureStringRefFormAsk : Prop := fnCaptureStringRefRow.holds Tryz.pinned (OpenSpec.ofChange fnCaptureStringRefSpec)

/-- ITS FALSE NEIGHBOUR: 'it returns false'. Refute it at one input. -/
def fnCaptureStringRefWrong : ChangeSpec := { name := "fnCaptureStringRef", fn := fun _ => fun
  | [d] => { results := [.lit (.bool false)], args := [d] }
  | _ => none }
def FnCaptureStringRefWrongFormAsk : Prop := fnCaptureStringRefRow.holds Tryz.pinned (OpenSpec.ofChange fnCaptureStringRefWrong)

/-- 'n025_26.FnCaptureStringGroup': WHATEVER THE INPUT: true; the input reads as it did. -/
def fnCaptureStringGroupSpec : ChangeSpec := { name := "fnCaptureStringGroup", fn := fun _ => fun
  | [d] => { results := [.lit (.bool true)], args := [d] }
  | _ => none }
def fnCaptureStringGroupRow : OpenClaim := { program := "ytmfgobmchjbjlaagreatfmt", sum := "b296e3a190d98b3f2551c27b03caba68558575effa354b00d0e09d7d8af474a2", func := "github.com/alecthomas/participle/v2/n025_26.FnCaptureStringGroup", spec := "fnCaptureStringGroup", stops := ["fmt.Sprintf, its operands' methods called"], inPlace := ["internal/abi.NoEscape", "internal/bytealg.MakeNoZero", "fmt.Sprintf"], unfollowed := true, recurses := true, named := ["unicode/utf8.first", "unicode/utf8.acceptRanges", "unicode.CaseRanges"], make := .lifted ["reflectrows", "leanrows"], apart := false, laid := [("unicode/utf8.acceptRanges", laid_unicode_utf8_acceptRanges), ("unicode.CaseRanges", laid_unicode_CaseRanges), ("unicode/utf8.first", laid_unicode_utf8_first)] }
/-- NO THEOREM (fmt's text is open here; it may be false): for the released tool's asking of the row's closed facts alone. THE STATEMENT IS 'FnCaptureStringGroupToldSaid' (YtmfgobmchjbjlaaGreatFmtCards.lean). -/
def FnCaptureStringGroupFormAsk : Prop := fnCaptureStringGroupRow.holds Tryz.pinned (OpenSpec.ofChange fnCaptureStringGroupSpec)

/-- ITS FALSE NEIGHBOUR: 'it returns false'. Refute it at one input. -/
def fnCaptureStringGroupWrong : ChangeSpec := { name := "fnCaptureStringGroup", fn := fun _ => fun
  | [d] => { results := [.lit (.bool false)], args := [d] }
  | _ => none }
def FnCaptureStringGroupWrongFormAsk : Prop := fnCaptureStringGroupRow.holds Tryz.pinned (OpenSpec.ofChange fnCaptureStringGroupWrong)

end Rows
end Go.Proofs.YtmfgobmchjbjlaaGreatFmt
