/-
  DERIVED. GIVEN WITH THE SEED: THE CARDS: each row of YtbfnmhnlmglceaaGreatFmtRows.lean that lists a variable, with what it lists TIED to the program's text (the seventh form; the later family's looks); each row that meets fmt, with fmt's text TOLD by the authors' own Lean function (tested against real Go, not proved from fmt's source: count such statements apart). THE CARD IS WHAT COUNTS. Prove the row's statement (the work); the ties are given (YtbfnmhnlmglceaaGreatFmtTie.lean); close each card by the builder's one call (the guide's Derived/Test/ToyasCard.lean, 'card_holds'). Laid BY PROGRAM, IN A SANDBOX (cutbox-door.mjs). By AI agents, Wed Nov 11 2026. No macro, syntax, notation, axiom, sorry.
-/
import Derived.Test.YtbfnmhnlmglceaaGreatFmtRows
import GoSem.ClaimSeven
namespace Go.Proofs.YtbfnmhnlmglceaaGreatFmt
namespace Rows

/-- THE TOLD CARD OF 'n025_27.FnGroupGoStringTable'. -/
def fnGroupGoStringTableCard : Claim7 := { stood := { row := fnGroupGoStringTableRow, standIns := [], harness := (true, "f6ef476319e504c38fd7dc92b0ef622a5f88934bb7e1a6623f847c0ce5f4a189"), looks := true }, told := true, goes := false }
def FnGroupGoStringTableToldSaid : Prop := Claim7.holds Tryz.pinned (.plain (OpenSpec.ofChange fnGroupGoStringTableSpec)) fnGroupGoStringTableCard
/-- ITS FALSE NEIGHBOUR. Refute it at one input. -/
def FnGroupGoStringTableToldWrongFalsely : Prop := Claim7.holds Tryz.pinned (.plain (OpenSpec.ofChange fnGroupGoStringTableWrong)) fnGroupGoStringTableCard

/-- THE TOLD CARD OF 'n025_27.FnLookaheadGoStringDiffersFromGroup'. -/
def fnLookaheadGoStringDiffersFromGroupCard : Claim7 := { stood := { row := fnLookaheadGoStringDiffersFromGroupRow, standIns := [], harness := (true, "f6ef476319e504c38fd7dc92b0ef622a5f88934bb7e1a6623f847c0ce5f4a189"), looks := true }, told := true, goes := false }
def FnLookaheadGoStringDiffersFromGroupToldSaid : Prop := Claim7.holds Tryz.pinned (.plain (OpenSpec.ofChange fnLookaheadGoStringDiffersFromGroupSpec)) fnLookaheadGoStringDiffersFromGroupCard
/-- ITS FALSE NEIGHBOUR. Refute it at one input. -/
def FnLookaheadGoStringDiffersFromGroupToldWrongFalsely : Prop := Claim7.holds Tryz.pinned (.plain (OpenSpec.ofChange fnLookaheadGoStringDiffersFromGroupWrong)) fnLookaheadGoStringDiffersFromGroupCard

/-- THE TOLD CARD OF 'n025_27.FnGroupGoStringIgnoresExprAndSeparatesModes'. -/
def fnGroupGoStringIgnoresExprAndSeparatesModesCard : Claim7 := { stood := { row := fnGroupGoStringIgnoresExprAndSeparatesModesRow, standIns := [], harness := (true, "f6ef476319e504c38fd7dc92b0ef622a5f88934bb7e1a6623f847c0ce5f4a189"), looks := true }, told := true, goes := false }
def FnGroupGoStringIgnoresExprAndSeparatesModesToldSaid : Prop := Claim7.holds Tryz.pinned (.plain (OpenSpec.ofChange fnGroupGoStringIgnoresExprAndSeparatesModesSpec)) fnGroupGoStringIgnoresExprAndSeparatesModesCard
/-- ITS FALSE NEIGHBOUR. Refute it at one input. -/
def FnGroupGoStringIgnoresExprAndSeparatesModesToldWrongFalsely : Prop := Claim7.holds Tryz.pinned (.plain (OpenSpec.ofChange fnGroupGoStringIgnoresExprAndSeparatesModesWrong)) fnGroupGoStringIgnoresExprAndSeparatesModesCard
end Rows
end Go.Proofs.YtbfnmhnlmglceaaGreatFmt
