/-
  DERIVED. GIVEN WITH THE SEED: THE CARDS: each row of YtfdlbohpoddccaaGreatFmtRows.lean that lists a variable, with what it lists TIED to the program's text (the seventh form; the later family's looks); each row that meets fmt, with fmt's text TOLD by the authors' own Lean function (tested against real Go, not proved from fmt's source: count such statements apart). THE CARD IS WHAT COUNTS. Prove the row's statement (the work); the ties are given (YtfdlbohpoddccaaGreatFmtTie.lean); close each card by the builder's one call (the guide's Derived/Test/ToyasCard.lean, 'card_holds'). Laid BY PROGRAM, IN A SANDBOX (cutbox-door.mjs). By AI agents, Wed Nov 11 2026. No macro, syntax, notation, axiom, sorry.
-/
import Derived.Test.YtfdlbohpoddccaaGreatFmtRows
import GoSem.ClaimSeven
namespace Go.Proofs.YtfdlbohpoddccaaGreatFmt
namespace Rows

/-- THE TOLD AND TIED CARD OF 'n025_51.FnEbnfSequenceOfReferences'. -/
def fnEbnfSequenceOfReferencesCard : Claim7 := { stood := { row := fnEbnfSequenceOfReferencesRow, standIns := [], harness := (true, "12718571b938b5c61114571d04ca24a0b0d6d34d0ca880d3cfeccc64dd33f00f"), looks := true }, told := true, laidByText := true, laidKinds := [.data, .pinned, .pinned], laidTests := true, laidLooks := .later, goes := false }
def FnEbnfSequenceOfReferencesToldSaid : Prop := Claim7.holds Tryz.pinned (.plain (OpenSpec.ofChange fnEbnfSequenceOfReferencesSpec)) fnEbnfSequenceOfReferencesCard
/-- ITS FALSE NEIGHBOUR. Refute it at one input. -/
def FnEbnfSequenceOfReferencesToldWrongFalsely : Prop := Claim7.holds Tryz.pinned (.plain (OpenSpec.ofChange fnEbnfSequenceOfReferencesWrong)) fnEbnfSequenceOfReferencesCard

/-- THE TOLD AND TIED CARD OF 'n025_51.FnEbnfDisjunctionOfAlternatives'. -/
def fnEbnfDisjunctionOfAlternativesCard : Claim7 := { stood := { row := fnEbnfDisjunctionOfAlternativesRow, standIns := [], harness := (true, "12718571b938b5c61114571d04ca24a0b0d6d34d0ca880d3cfeccc64dd33f00f"), looks := true }, told := true, laidByText := true, laidKinds := [.data, .pinned, .pinned], laidTests := true, laidLooks := .later, goes := false }
def FnEbnfDisjunctionOfAlternativesToldSaid : Prop := Claim7.holds Tryz.pinned (.plain (OpenSpec.ofChange fnEbnfDisjunctionOfAlternativesSpec)) fnEbnfDisjunctionOfAlternativesCard
/-- ITS FALSE NEIGHBOUR. Refute it at one input. -/
def FnEbnfDisjunctionOfAlternativesToldWrongFalsely : Prop := Claim7.holds Tryz.pinned (.plain (OpenSpec.ofChange fnEbnfDisjunctionOfAlternativesWrong)) fnEbnfDisjunctionOfAlternativesCard
end Rows
end Go.Proofs.YtfdlbohpoddccaaGreatFmt
