/-
  No cell of these rows narrows 'for every input' (looked for: loops, veiled, ifaces, maps, wideKeys, modest, calm, conditions, laid).
  DERIVED. THE GIVEN ROWS OF THIS SEAT. 3 by the template 'for every input the law returns true; each argument reads behind the call as it read before'; 0 by the template 'total and deterministic' (their statements: YtbfnmhnlmglceaaGreatFmtTotals.lean).
  GIVEN WITH THE SEED: the statements are not yours to turn. If you find one false, say at which input.
  Laid BY PROGRAM, IN A SANDBOX (cutbox-rows.mjs): the forced cells as the released guide's own fill.sh prints them over the translation 2bf1be507e760c46… (all of the seat's roots in one cut). By AI agents, Wed Nov 11 2026. No macro, syntax, notation, axiom, sorry.
-/
import Derived.Test.YtbfnmhnlmglceaaGreatFmtChecked
import GoSem.Claim
import GoSem.ClaimJoined
import GoSem.ClaimMapViews
import Derived.JoinedTies
import Derived.KernelRfl
namespace Go.Proofs.YtbfnmhnlmglceaaGreatFmt
/- THE CELL 'sum', in the pinned program and in every row, IS THE sha256 OF THE DUMP (.gsa) THAT YtbfnmhnlmglceaaGreatFmtProg.lean LOADS. Nothing in Lean hashes anything: it is a label: what it is worth is what the hold of that sum in a sandbox is worth. -/
noncomputable def Tryz.pinned : Pinned := { name := "ytbfnmhnlmglceaagreatfmt", sum := "2bf1be507e760c466b10c5a92fb34e3b3ce358a02303146aeccdba332ef0cb1f", checked := Tryz.checked }
namespace Rows
def none {H : Type} : Left H := { results := [], args := [] }

/-- 'n025_27.FnGroupGoStringTable': WHATEVER THE INPUT: true; the input reads as it did. -/
def fnGroupGoStringTableSpec : ChangeSpec := { name := "fnGroupGoStringTable", fn := fun _ => fun
  | [d] => { results := [.lit (.bool true)], args := [d] }
  | _ => none }
def fnGroupGoStringTableRow : OpenClaim := { program := "ytbfnmhnlmglceaagreatfmt", sum := "2bf1be507e760c466b10c5a92fb34e3b3ce358a02303146aeccdba332ef0cb1f", func := "github.com/alecthomas/participle/v2/n025_27.FnGroupGoStringTable", spec := "fnGroupGoStringTable", stops := ["fmt.Sprintf, its operands' methods called"], inPlace := ["fmt.Sprintf"], unfollowed := true, recurses := true, make := .lifted ["reflectrows", "leanrows"], apart := false }
/-- NO THEOREM (fmt's text is open here; it may be false): for the released tool's asking of the row's closed facts alone. THE STATEMENT IS 'FnGroupGoStringTableToldSaid' (YtbfnmhnlmglceaaGreatFmtCards.lean). -/
def FnGroupGoStringTableFormAsk : Prop := fnGroupGoStringTableRow.holds Tryz.pinned (OpenSpec.ofChange fnGroupGoStringTableSpec)

/-- ITS FALSE NEIGHBOUR: 'it returns false'. Refute it at one input. -/
def fnGroupGoStringTableWrong : ChangeSpec := { name := "fnGroupGoStringTable", fn := fun _ => fun
  | [d] => { results := [.lit (.bool false)], args := [d] }
  | _ => none }
def FnGroupGoStringTableWrongFormAsk : Prop := fnGroupGoStringTableRow.holds Tryz.pinned (OpenSpec.ofChange fnGroupGoStringTableWrong)

/-- 'n025_27.FnLookaheadGoStringDiffersFromGroup': WHATEVER THE INPUT: true; the input reads as it did. -/
def fnLookaheadGoStringDiffersFromGroupSpec : ChangeSpec := { name := "fnLookaheadGoStringDiffersFromGroup", fn := fun _ => fun
  | [d1, d2, d3] => { results := [.lit (.bool true)], args := [d1, d2, d3] }
  | _ => none }
def fnLookaheadGoStringDiffersFromGroupRow : OpenClaim := { program := "ytbfnmhnlmglceaagreatfmt", sum := "2bf1be507e760c466b10c5a92fb34e3b3ce358a02303146aeccdba332ef0cb1f", func := "github.com/alecthomas/participle/v2/n025_27.FnLookaheadGoStringDiffersFromGroup", spec := "fnLookaheadGoStringDiffersFromGroup", stops := ["fmt.Sprintf, its operands' methods called"], inPlace := ["fmt.Sprintf"], unfollowed := true, recurses := true, make := .lifted ["reflectrows", "leanrows"], apart := false }
/-- NO THEOREM (fmt's text is open here; it may be false): for the released tool's asking of the row's closed facts alone. THE STATEMENT IS 'FnLookaheadGoStringDiffersFromGroupToldSaid' (YtbfnmhnlmglceaaGreatFmtCards.lean). -/
def FnLookaheadGoStringDiffersFromGroupFormAsk : Prop := fnLookaheadGoStringDiffersFromGroupRow.holds Tryz.pinned (OpenSpec.ofChange fnLookaheadGoStringDiffersFromGroupSpec)

/-- ITS FALSE NEIGHBOUR: 'it returns false'. Refute it at one input. -/
def fnLookaheadGoStringDiffersFromGroupWrong : ChangeSpec := { name := "fnLookaheadGoStringDiffersFromGroup", fn := fun _ => fun
  | [d1, d2, d3] => { results := [.lit (.bool false)], args := [d1, d2, d3] }
  | _ => none }
def FnLookaheadGoStringDiffersFromGroupWrongFormAsk : Prop := fnLookaheadGoStringDiffersFromGroupRow.holds Tryz.pinned (OpenSpec.ofChange fnLookaheadGoStringDiffersFromGroupWrong)

/-- 'n025_27.FnGroupGoStringIgnoresExprAndSeparatesModes': WHATEVER THE INPUT: true; the input reads as it did. -/
def fnGroupGoStringIgnoresExprAndSeparatesModesSpec : ChangeSpec := { name := "fnGroupGoStringIgnoresExprAndSeparatesModes", fn := fun _ => fun
  | [d1, d2, d3, d4] => { results := [.lit (.bool true)], args := [d1, d2, d3, d4] }
  | _ => none }
def fnGroupGoStringIgnoresExprAndSeparatesModesRow : OpenClaim := { program := "ytbfnmhnlmglceaagreatfmt", sum := "2bf1be507e760c466b10c5a92fb34e3b3ce358a02303146aeccdba332ef0cb1f", func := "github.com/alecthomas/participle/v2/n025_27.FnGroupGoStringIgnoresExprAndSeparatesModes", spec := "fnGroupGoStringIgnoresExprAndSeparatesModes", stops := ["fmt.Sprintf, its operands' methods called"], inPlace := ["fmt.Sprintf"], unfollowed := true, recurses := true, make := .lifted ["reflectrows", "leanrows"], apart := false }
/-- NO THEOREM (fmt's text is open here; it may be false): for the released tool's asking of the row's closed facts alone. THE STATEMENT IS 'FnGroupGoStringIgnoresExprAndSeparatesModesToldSaid' (YtbfnmhnlmglceaaGreatFmtCards.lean). -/
def FnGroupGoStringIgnoresExprAndSeparatesModesFormAsk : Prop := fnGroupGoStringIgnoresExprAndSeparatesModesRow.holds Tryz.pinned (OpenSpec.ofChange fnGroupGoStringIgnoresExprAndSeparatesModesSpec)

/-- ITS FALSE NEIGHBOUR: 'it returns false'. Refute it at one input. -/
def fnGroupGoStringIgnoresExprAndSeparatesModesWrong : ChangeSpec := { name := "fnGroupGoStringIgnoresExprAndSeparatesModes", fn := fun _ => fun
  | [d1, d2, d3, d4] => { results := [.lit (.bool false)], args := [d1, d2, d3, d4] }
  | _ => none }
def FnGroupGoStringIgnoresExprAndSeparatesModesWrongFormAsk : Prop := fnGroupGoStringIgnoresExprAndSeparatesModesRow.holds Tryz.pinned (OpenSpec.ofChange fnGroupGoStringIgnoresExprAndSeparatesModesWrong)

end Rows
end Go.Proofs.YtbfnmhnlmglceaaGreatFmt
