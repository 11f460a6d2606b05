/-
  DERIVED. GIVEN WITH THE SEED: THE CARDS: each row of YtmfgobmchjbjlaaGreatFmtRows.lean that lists a variable, with what it lists TIED to the program's text (the seventh form; the later family's looks); each row that meets fmt, with fmt's text TOLD by the authors' own Lean function (tested against real Go, not proved from fmt's source: count such statements apart). THE CARD IS WHAT COUNTS. Prove the row's statement (the work); the ties are given (YtmfgobmchjbjlaaGreatFmtTie.lean); close each card by the builder's one call (the guide's Derived/Test/ToyasCard.lean, 'card_holds'). Laid BY PROGRAM, IN A SANDBOX (cutbox-door.mjs). By AI agents, Wed Nov 11 2026. No macro, syntax, notation, axiom, sorry.
-/
import Derived.Test.YtmfgobmchjbjlaaGreatFmtRows
import GoSem.ClaimSeven
namespace Go.Proofs.YtmfgobmchjbjlaaGreatFmt
namespace Rows

/-- THE TOLD AND TIED CARD OF 'n025_16.FnGroupStringTable'. -/
def fnGroupStringTableCard : Claim7 := { stood := { row := fnGroupStringTableRow, standIns := [], harness := (true, "fdfcc5d2d2cbfa85c0845020b627759c18bf94900bd7af82a0c151d1dfe8bc82"), looks := true }, told := true, laidByText := true, laidKinds := [.data, .pinned, .pinned], laidTests := true, laidLooks := .later, goes := false }
def FnGroupStringTableToldSaid : Prop := Claim7.holds Tryz.pinned (.plain (OpenSpec.ofChange fnGroupStringTableSpec)) fnGroupStringTableCard
/-- ITS FALSE NEIGHBOUR. Refute it at one input. -/
def FnGroupStringTableToldWrongFalsely : Prop := Claim7.holds Tryz.pinned (.plain (OpenSpec.ofChange fnGroupStringTableWrong)) fnGroupStringTableCard

/-- THE TOLD AND TIED CARD OF 'n025_26.FnCaptureStringRef'. -/
def fnCaptureStringRefCard : Claim7 := { stood := { row := fnCaptureStringRefRow, standIns := [], harness := (true, "fdfcc5d2d2cbfa85c0845020b627759c18bf94900bd7af82a0c151d1dfe8bc82"), looks := true }, told := true, laidByText := true, laidKinds := [.data, .pinned, .pinned], laidTests := true, laidLooks := .later, goes := false }
def FnCaptureStringRefToldSaid : Prop := Claim7.holds Tryz.pinned (.plain (OpenSpec.ofChange fnCaptureStringRefSpec)) fnCaptureStringRefCard
/-- ITS FALSE NEIGHBOUR. Refute it at one input. -/
def FnCaptureStringRefToldWrongFalsely : Prop := Claim7.holds Tryz.pinned (.plain (OpenSpec.ofChange fnCaptureStringRefWrong)) fnCaptureStringRefCard

/-- THE TOLD AND TIED CARD OF 'n025_26.FnCaptureStringGroup'. -/
def fnCaptureStringGroupCard : Claim7 := { stood := { row := fnCaptureStringGroupRow, standIns := [], harness := (true, "fdfcc5d2d2cbfa85c0845020b627759c18bf94900bd7af82a0c151d1dfe8bc82"), looks := true }, told := true, laidByText := true, laidKinds := [.data, .pinned, .pinned], laidTests := true, laidLooks := .later, goes := false }
def FnCaptureStringGroupToldSaid : Prop := Claim7.holds Tryz.pinned (.plain (OpenSpec.ofChange fnCaptureStringGroupSpec)) fnCaptureStringGroupCard
/-- ITS FALSE NEIGHBOUR. Refute it at one input. -/
def FnCaptureStringGroupToldWrongFalsely : Prop := Claim7.holds Tryz.pinned (.plain (OpenSpec.ofChange fnCaptureStringGroupWrong)) fnCaptureStringGroupCard
end Rows
end Go.Proofs.YtmfgobmchjbjlaaGreatFmt
