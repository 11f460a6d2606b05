/-
  DERIVED. GIVEN WITH THE SEED: THE CARDS: each row of YtfmlfaankmnfjaaGreatFmtRows.lean that lists a variable, with what it lists TIED to the program's text (the seventh form; the later family's looks); each row that meets fmt, with fmt's text TOLD by the authors' own Lean function (tested against real Go, not proved from fmt's source: count such statements apart). THE CARD IS WHAT COUNTS. Prove the row's statement (the work); the ties are given (YtfmlfaankmnfjaaGreatFmtTie.lean); close each card by the builder's one call (the guide's Derived/Test/ToyasCard.lean, 'card_holds'). Laid BY PROGRAM, IN A SANDBOX (cutbox-door.mjs). By AI agents, Wed Nov 11 2026. No macro, syntax, notation, axiom, sorry.
-/
import Derived.Test.YtfmlfaankmnfjaaGreatFmtRows
import GoSem.ClaimSeven
namespace Go.Proofs.YtfmlfaankmnfjaaGreatFmt
namespace Rows

/-- THE TOLD AND TIED CARD OF 'n025_51.FnEbnfDisjunctionOfAlternatives'. -/
def fnEbnfDisjunctionOfAlternativesCard : Claim7 := { stood := { row := fnEbnfDisjunctionOfAlternativesRow, standIns := [], harness := (true, "6d3c159236fbea1ba5d60e36265e34a68fbfb4e88c7e79f6f09ea704c4193601"), looks := true }, told := true, laidByText := true, laidKinds := [.data, .pinned, .pinned], laidTests := true, laidLooks := .later, goes := false }
def FnEbnfDisjunctionOfAlternativesToldSaid : Prop := Claim7.holds Tryz.pinned (.plain (OpenSpec.ofChange fnEbnfDisjunctionOfAlternativesSpec)) fnEbnfDisjunctionOfAlternativesCard
/-- ITS FALSE NEIGHBOUR. Refute it at one input. -/
def FnEbnfDisjunctionOfAlternativesToldWrongFalsely : Prop := Claim7.holds Tryz.pinned (.plain (OpenSpec.ofChange fnEbnfDisjunctionOfAlternativesWrong)) fnEbnfDisjunctionOfAlternativesCard

/-- THE TOLD AND TIED CARD OF 'n025_21.FnCustomStringCapitalisesGoString'. -/
def fnCustomStringCapitalisesGoStringCard : Claim7 := { stood := { row := fnCustomStringCapitalisesGoStringRow, standIns := [], harness := (true, "6d3c159236fbea1ba5d60e36265e34a68fbfb4e88c7e79f6f09ea704c4193601"), looks := true }, told := true, laidByText := true, laidKinds := [.data, .pinned, .pinned], laidTests := true, laidLooks := .later, goes := false }
def FnCustomStringCapitalisesGoStringToldSaid : Prop := Claim7.holds Tryz.pinned (.plain (OpenSpec.ofChange fnCustomStringCapitalisesGoStringSpec)) fnCustomStringCapitalisesGoStringCard
/-- ITS FALSE NEIGHBOUR. Refute it at one input. -/
def FnCustomStringCapitalisesGoStringToldWrongFalsely : Prop := Claim7.holds Tryz.pinned (.plain (OpenSpec.ofChange fnCustomStringCapitalisesGoStringWrong)) fnCustomStringCapitalisesGoStringCard
end Rows
end Go.Proofs.YtfmlfaankmnfjaaGreatFmt
