/-
  DERIVED. GIVEN WITH THE SEED: THE CARDS: each row of YtiofodmlgneieaaGreatFmtRows.lean that lists a variable, with what it lists TIED to the program's text (the seventh form; the later family's looks); each row that meets fmt, with fmt's text TOLD by the authors' own Lean function (tested against real Go, not proved from fmt's source: count such statements apart). THE CARD IS WHAT COUNTS. Prove the row's statement (the work); the ties are given (YtiofodmlgneieaaGreatFmtTie.lean); close each card by the builder's one call (the guide's Derived/Test/ToyasCard.lean, 'card_holds'). Laid BY PROGRAM, IN A SANDBOX (cutbox-door.mjs). By AI agents, Wed Nov 11 2026. No macro, syntax, notation, axiom, sorry.
-/
import Derived.Test.YtiofodmlgneieaaGreatFmtRows
import GoSem.ClaimSeven
namespace Go.Proofs.YtiofodmlgneieaaGreatFmt
namespace Rows

/-- THE TOLD AND TIED CARD OF 'n025_45.FnLiteralGoStringAgreesWithString'. -/
def fnLiteralGoStringAgreesWithStringCard : Claim7 := { stood := { row := fnLiteralGoStringAgreesWithStringRow, standIns := [], harness := (true, "c593fce4b8e15f50be05694846fc4686fc81af830f991e835b860486d1bc8b58"), looks := true }, told := true, laidByText := true, laidKinds := [.data, .pinned, .pinned], laidTests := true, laidLooks := .later, goes := false }
def FnLiteralGoStringAgreesWithStringToldSaid : Prop := Claim7.holds Tryz.pinned (.plain (OpenSpec.ofChange fnLiteralGoStringAgreesWithStringSpec)) fnLiteralGoStringAgreesWithStringCard
/-- ITS FALSE NEIGHBOUR. Refute it at one input. -/
def FnLiteralGoStringAgreesWithStringToldWrongFalsely : Prop := Claim7.holds Tryz.pinned (.plain (OpenSpec.ofChange fnLiteralGoStringAgreesWithStringWrong)) fnLiteralGoStringAgreesWithStringCard

/-- THE TOLD AND TIED CARD OF 'n025_45.FnLiteralStringDecodesBack'. -/
def fnLiteralStringDecodesBackCard : Claim7 := { stood := { row := fnLiteralStringDecodesBackRow, standIns := [], harness := (true, "c593fce4b8e15f50be05694846fc4686fc81af830f991e835b860486d1bc8b58"), looks := true }, told := true, laidByText := true, laidKinds := [.data, .pinned, .pinned], laidTests := true, laidLooks := .later, goes := false }
def FnLiteralStringDecodesBackToldSaid : Prop := Claim7.holds Tryz.pinned (.plain (OpenSpec.ofChange fnLiteralStringDecodesBackSpec)) fnLiteralStringDecodesBackCard
/-- ITS FALSE NEIGHBOUR. Refute it at one input. -/
def FnLiteralStringDecodesBackToldWrongFalsely : Prop := Claim7.holds Tryz.pinned (.plain (OpenSpec.ofChange fnLiteralStringDecodesBackWrong)) fnLiteralStringDecodesBackCard

/-- THE TOLD AND TIED CARD OF 'n025_27.FnLookaheadStringOverAlternatives'. -/
def fnLookaheadStringOverAlternativesCard : Claim7 := { stood := { row := fnLookaheadStringOverAlternativesRow, standIns := [], harness := (true, "c593fce4b8e15f50be05694846fc4686fc81af830f991e835b860486d1bc8b58"), looks := true }, told := true, laidByText := true, laidKinds := [.data, .pinned, .pinned], laidTests := true, laidLooks := .later, goes := false }
def FnLookaheadStringOverAlternativesToldSaid : Prop := Claim7.holds Tryz.pinned (.plain (OpenSpec.ofChange fnLookaheadStringOverAlternativesSpec)) fnLookaheadStringOverAlternativesCard
/-- ITS FALSE NEIGHBOUR. Refute it at one input. -/
def FnLookaheadStringOverAlternativesToldWrongFalsely : Prop := Claim7.holds Tryz.pinned (.plain (OpenSpec.ofChange fnLookaheadStringOverAlternativesWrong)) fnLookaheadStringOverAlternativesCard

/-- THE TOLD AND TIED CARD OF 'n025_27.FnLookaheadStringOverLiteral'. -/
def fnLookaheadStringOverLiteralCard : Claim7 := { stood := { row := fnLookaheadStringOverLiteralRow, standIns := [], harness := (true, "c593fce4b8e15f50be05694846fc4686fc81af830f991e835b860486d1bc8b58"), looks := true }, told := true, laidByText := true, laidKinds := [.data, .pinned, .pinned], laidTests := true, laidLooks := .later, goes := false }
def FnLookaheadStringOverLiteralToldSaid : Prop := Claim7.holds Tryz.pinned (.plain (OpenSpec.ofChange fnLookaheadStringOverLiteralSpec)) fnLookaheadStringOverLiteralCard
/-- ITS FALSE NEIGHBOUR. Refute it at one input. -/
def FnLookaheadStringOverLiteralToldWrongFalsely : Prop := Claim7.holds Tryz.pinned (.plain (OpenSpec.ofChange fnLookaheadStringOverLiteralWrong)) fnLookaheadStringOverLiteralCard

/-- THE TOLD AND TIED CARD OF 'n025_45.FnLiteralStringQuotesASCIIExactly'. -/
def fnLiteralStringQuotesASCIIExactlyCard : Claim7 := { stood := { row := fnLiteralStringQuotesASCIIExactlyRow, standIns := [], harness := (true, "c593fce4b8e15f50be05694846fc4686fc81af830f991e835b860486d1bc8b58"), looks := true }, told := true, laidByText := true, laidKinds := [.data, .pinned, .pinned], laidTests := true, laidLooks := .later, goes := false }
def FnLiteralStringQuotesASCIIExactlyToldSaid : Prop := Claim7.holds Tryz.pinned (.plain (OpenSpec.ofChange fnLiteralStringQuotesASCIIExactlySpec)) fnLiteralStringQuotesASCIIExactlyCard
/-- ITS FALSE NEIGHBOUR. Refute it at one input. -/
def FnLiteralStringQuotesASCIIExactlyToldWrongFalsely : Prop := Claim7.holds Tryz.pinned (.plain (OpenSpec.ofChange fnLiteralStringQuotesASCIIExactlyWrong)) fnLiteralStringQuotesASCIIExactlyCard
end Rows
end Go.Proofs.YtiofodmlgneieaaGreatFmt
