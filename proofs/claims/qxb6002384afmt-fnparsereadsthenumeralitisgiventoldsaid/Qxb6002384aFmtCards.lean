/-
  DERIVED. GIVEN WITH THE SEED: THE CARDS: each row of Qxb6002384aFmtRows.lean that lists a variable, with what it lists TIED to the program's text (the seventh form; the later family's looks); each row that meets fmt, with fmt's text TOLD by the authors' own Lean function (tested against real Go, not proved from fmt's source: count such statements apart). THE CARD IS WHAT COUNTS. Prove the row's statement (the work); the ties are given (Qxb6002384aFmtTie.lean); close each card by the builder's one call (the guide's Derived/Test/ToyasCard.lean, 'card_holds'). Laid BY PROGRAM, IN A SANDBOX (cutbox-door.mjs). By AI agents, Wed Nov 11 2026. No macro, syntax, notation, axiom, sorry.
-/
import Derived.Test.Qxb6002384aFmtRows
import GoSem.ClaimSeven
namespace Go.Proofs.Qxb6002384aFmt
namespace Rows

/-- THE TOLD AND TIED CARD OF 'zzlaws_pkg_decimal_f1.FnParseTakesExactlyThePlainDecimals'. -/
def fnParseTakesExactlyThePlainDecimalsCard : Claim7 := { stood := { row := fnParseTakesExactlyThePlainDecimalsRow, standIns := [], harness := (true, "4c475f5a2c05cd473398fc0a6565b6a7c7995d41fa9aba617aae19d04ee2cfa1"), looks := true }, told := true, laidByText := true, laidKinds := [.sentinel, .sentinel, .sentinel, .sentinel], laidTests := true, laidLooks := .later, goes := false }
def FnParseTakesExactlyThePlainDecimalsToldSaid : Prop := Claim7.holds Tryf.pinned (.plain (OpenSpec.ofChange fnParseTakesExactlyThePlainDecimalsSpec)) fnParseTakesExactlyThePlainDecimalsCard
/-- ITS FALSE NEIGHBOUR. Refute it at one input. -/
def FnParseTakesExactlyThePlainDecimalsToldWrongFalsely : Prop := Claim7.holds Tryf.pinned (.plain (OpenSpec.ofChange fnParseTakesExactlyThePlainDecimalsWrong)) fnParseTakesExactlyThePlainDecimalsCard

/-- THE TOLD AND TIED CARD OF 'zzlaws_pkg_decimal_f1.FnParseReadsTheNumeralItIsGiven'. -/
def fnParseReadsTheNumeralItIsGivenCard : Claim7 := { stood := { row := fnParseReadsTheNumeralItIsGivenRow, standIns := [], harness := (true, "4c475f5a2c05cd473398fc0a6565b6a7c7995d41fa9aba617aae19d04ee2cfa1"), looks := true }, told := true, laidByText := true, laidKinds := [.sentinel, .sentinel, .sentinel, .sentinel], laidTests := true, laidLooks := .later, goes := false }
def FnParseReadsTheNumeralItIsGivenToldSaid : Prop := Claim7.holds Tryf.pinned (.plain (OpenSpec.ofChange fnParseReadsTheNumeralItIsGivenSpec)) fnParseReadsTheNumeralItIsGivenCard
/-- ITS FALSE NEIGHBOUR. Refute it at one input. -/
def FnParseReadsTheNumeralItIsGivenToldWrongFalsely : Prop := Claim7.holds Tryf.pinned (.plain (OpenSpec.ofChange fnParseReadsTheNumeralItIsGivenWrong)) fnParseReadsTheNumeralItIsGivenCard
end Rows
end Go.Proofs.Qxb6002384aFmt
