/-
  DERIVED. GIVEN WITH THE SEED: THE CARDS: each row of YtmolmojknakfdaaGreatFmtRows.lean that lists a variable, with what it lists TIED to the program's text (the seventh form; the later family's looks); each row that meets fmt, with fmt's text TOLD by the authors' own Lean function (tested against real Go, not proved from fmt's source: count such statements apart). THE CARD IS WHAT COUNTS. Prove the row's statement (the work); the ties are given (YtmolmojknakfdaaGreatFmtTie.lean); close each card by the builder's one call (the guide's Derived/Test/ToyasCard.lean, 'card_holds'). Laid BY PROGRAM, IN A SANDBOX (cutbox-door.mjs). By AI agents, Wed Nov 11 2026. No macro, syntax, notation, axiom, sorry.
-/
import Derived.Test.YtmolmojknakfdaaGreatFmtRows
import GoSem.ClaimSeven
namespace Go.Proofs.YtmolmojknakfdaaGreatFmt
namespace Rows

/-- THE TOLD AND TIED CARD OF 'n025_21.FnCustomStringIsProductionName'. -/
def fnCustomStringIsProductionNameCard : Claim7 := { stood := { row := fnCustomStringIsProductionNameRow, standIns := [], harness := (true, "4b0fa9bda09f7e1da012a8ddb5138a8ca2b89ccc027d450d34cf53cd3c4cd8fc"), looks := true }, told := true, laidByText := true, laidKinds := [.data, .pinned, .pinned], laidTests := true, laidLooks := .later, goes := false }
def FnCustomStringIsProductionNameToldSaid : Prop := Claim7.holds Tryz.pinned (.plain (OpenSpec.ofChange fnCustomStringIsProductionNameSpec)) fnCustomStringIsProductionNameCard
/-- ITS FALSE NEIGHBOUR. Refute it at one input. -/
def FnCustomStringIsProductionNameToldWrongFalsely : Prop := Claim7.holds Tryz.pinned (.plain (OpenSpec.ofChange fnCustomStringIsProductionNameWrong)) fnCustomStringIsProductionNameCard

/-- THE TOLD CARD OF 'n025_21.FnParseableGoStringIsQualifiedType'. -/
def fnParseableGoStringIsQualifiedTypeCard : Claim7 := { stood := { row := fnParseableGoStringIsQualifiedTypeRow, standIns := [], harness := (true, "4b0fa9bda09f7e1da012a8ddb5138a8ca2b89ccc027d450d34cf53cd3c4cd8fc"), looks := true }, told := true, goes := false }
def FnParseableGoStringIsQualifiedTypeToldSaid : Prop := Claim7.holds Tryz.pinned (.plain (OpenSpec.ofChange fnParseableGoStringIsQualifiedTypeSpec)) fnParseableGoStringIsQualifiedTypeCard
/-- ITS FALSE NEIGHBOUR. Refute it at one input. -/
def FnParseableGoStringIsQualifiedTypeToldWrongFalsely : Prop := Claim7.holds Tryz.pinned (.plain (OpenSpec.ofChange fnParseableGoStringIsQualifiedTypeWrong)) fnParseableGoStringIsQualifiedTypeCard

/-- THE TOLD AND TIED CARD OF 'n025_21.FnCustomStringCapitalisesGoString'. -/
def fnCustomStringCapitalisesGoStringCard : Claim7 := { stood := { row := fnCustomStringCapitalisesGoStringRow, standIns := [], harness := (true, "4b0fa9bda09f7e1da012a8ddb5138a8ca2b89ccc027d450d34cf53cd3c4cd8fc"), looks := true }, told := true, laidByText := true, laidKinds := [.data, .pinned, .pinned], laidTests := true, laidLooks := .later, goes := false }
def FnCustomStringCapitalisesGoStringToldSaid : Prop := Claim7.holds Tryz.pinned (.plain (OpenSpec.ofChange fnCustomStringCapitalisesGoStringSpec)) fnCustomStringCapitalisesGoStringCard
/-- ITS FALSE NEIGHBOUR. Refute it at one input. -/
def FnCustomStringCapitalisesGoStringToldWrongFalsely : Prop := Claim7.holds Tryz.pinned (.plain (OpenSpec.ofChange fnCustomStringCapitalisesGoStringWrong)) fnCustomStringCapitalisesGoStringCard
end Rows
end Go.Proofs.YtmolmojknakfdaaGreatFmt
