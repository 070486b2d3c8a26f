/-
  NARROWER THAN 'FOR EVERY INPUT', by the rows' own cells (each row's printed sentence says how): FnParseTakesExactlyThePlainDecimals: ifaces, laid · FnParseReadsTheNumeralItIsGiven: ifaces, laid.
  DERIVED. THE GIVEN ROWS OF THIS SEAT. 2 by the template 'for every input the law returns true; each argument reads behind the call as it read before'; 0 by the template 'total and deterministic' (their statements: Qxb6002384aFmtTotals.lean).
  GIVEN WITH THE SEED: the statements are not yours to turn. If you find one false, say at which input.
  Laid BY PROGRAM, IN A SANDBOX (cutbox-rows.mjs): the forced cells as the released guide's own fill.sh prints them over the translation 0ed238f0b4841a6a… (all of the seat's roots in one cut). By AI agents, Wed Nov 11 2026. No macro, syntax, notation, axiom, sorry.
-/
import Derived.Test.Qxb6002384aFmtChecked
import GoSem.Claim
import GoSem.ClaimJoined
import GoSem.ClaimMapViews
import Derived.JoinedTies
import Derived.KernelRfl
namespace Go.Proofs.Qxb6002384aFmt
/- THE CELL 'sum', in the pinned program and in every row, IS THE sha256 OF THE DUMP (.gsa) THAT Qxb6002384aFmtProg.lean LOADS. Nothing in Lean hashes anything: it is a label: what it is worth is what the hold of that sum in a sandbox is worth. -/
noncomputable def Tryf.pinned : Pinned := { name := "qxb6002384afmt", sum := "0ed238f0b4841a6a9c81424c930065f2fa36c95b3264d8e8bec6c0e91cf22639", checked := Tryf.checked }
namespace Rows
def none {H : Type} : Left H := { results := [], args := [] }

/- WHAT THE LISTED PACKAGE-LEVEL VARIABLES READ AS WHEN THE CALL BEGINS. Each datum BY PROGRAM (the guide's laid-datum.mjs) off the statement by which the dump's own 'gosem.cut.vars' lays the variable. In a bare row this is a premise. The card (Qxb6002384aFmtCards.lean) ties it to the program's text. -/
def laid_io_EOF {H : Type} : DataW H := .iface "*errors.errorString" (.ptr (.agg [.lit (.string [69, 79, 70])]))
def laid_math_big_errNoDigits {H : Type} : DataW H := .iface "*errors.errorString" (.ptr (.agg [.lit (.string [110, 117, 109, 98, 101, 114, 32, 104, 97, 115, 32, 110, 111, 32, 100, 105, 103, 105, 116, 115])]))
def laid_math_big_errInvalSep {H : Type} : DataW H := .iface "*errors.errorString" (.ptr (.agg [.lit (.string [39, 95, 39, 32, 109, 117, 115, 116, 32, 115, 101, 112, 97, 114, 97, 116, 101, 32, 115, 117, 99, 99, 101, 115, 115, 105, 118, 101, 32, 100, 105, 103, 105, 116, 115])]))
def laid_example_com_tuoguan_tuoguan_pkg_decimal_errTooLong {H : Type} : DataW H := .iface "*errors.errorString" (.ptr (.agg [.lit (.string [116, 111, 111, 32, 108, 111, 110, 103, 32, 102, 111, 114, 32, 97, 32, 112, 108, 97, 105, 110, 32, 100, 101, 99, 105, 109, 97, 108])]))

/-- 'zzlaws_pkg_decimal_f1.FnParseTakesExactlyThePlainDecimals': WHATEVER THE INPUT: true; the input reads as it did. -/
def fnParseTakesExactlyThePlainDecimalsSpec : ChangeSpec := { name := "fnParseTakesExactlyThePlainDecimals", vars := ["example.com/tuoguan/tuoguan/pkg/decimal.errTooLong"], fn := fun _ => fun
  | [d, g1] => { results := [.lit (.bool true)], args := [d], vars := [g1] }
  | _ => none }
def fnParseTakesExactlyThePlainDecimalsRow : OpenClaim := { program := "qxb6002384afmt", sum := "0ed238f0b4841a6a9c81424c930065f2fa36c95b3264d8e8bec6c0e91cf22639", func := "example.com/tuoguan/tuoguan/zzlaws_pkg_decimal_f1.FnParseTakesExactlyThePlainDecimals", spec := "fnParseTakesExactlyThePlainDecimals", stops := ["fmt.errorf", "fmt.Sprintf"], inPlace := ["internal/bytealg.IndexByteString", "internal/bytealg.IndexString", "fmt.errorf", "fmt.Sprintf", "math/big.mulAddVWW", "math/bits.Add64", "math/big.rshVU"], unfollowed := true, recurses := true, named := ["example.com/tuoguan/tuoguan/pkg/decimal.errTooLong", "internal/bytealg.MaxLen", "io.EOF", "math/big.errInvalSep", "math/big.errNoDigits"], ifaces := true, apart := false, laid := [("io.EOF", laid_io_EOF), ("math/big.errNoDigits", laid_math_big_errNoDigits), ("math/big.errInvalSep", laid_math_big_errInvalSep), ("example.com/tuoguan/tuoguan/pkg/decimal.errTooLong", laid_example_com_tuoguan_tuoguan_pkg_decimal_errTooLong)] }
/-- NO THEOREM (fmt's text is open here; it may be false): for the released tool's asking of the row's closed facts alone. THE STATEMENT IS 'FnParseTakesExactlyThePlainDecimalsToldSaid' (Qxb6002384aFmtCards.lean). -/
def FnParseTakesExactlyThePlainDecimalsFormAsk : Prop := fnParseTakesExactlyThePlainDecimalsRow.holds Tryf.pinned (OpenSpec.ofChange fnParseTakesExactlyThePlainDecimalsSpec)

/-- ITS FALSE NEIGHBOUR: 'it returns false'. Refute it at one input. -/
def fnParseTakesExactlyThePlainDecimalsWrong : ChangeSpec := { name := "fnParseTakesExactlyThePlainDecimals", vars := ["example.com/tuoguan/tuoguan/pkg/decimal.errTooLong"], fn := fun _ => fun
  | [d, g1] => { results := [.lit (.bool false)], args := [d], vars := [g1] }
  | _ => none }
def FnParseTakesExactlyThePlainDecimalsWrongFormAsk : Prop := fnParseTakesExactlyThePlainDecimalsRow.holds Tryf.pinned (OpenSpec.ofChange fnParseTakesExactlyThePlainDecimalsWrong)

/-- 'zzlaws_pkg_decimal_f1.FnParseReadsTheNumeralItIsGiven': WHATEVER THE INPUT: true; the input reads as it did. -/
def fnParseReadsTheNumeralItIsGivenSpec : ChangeSpec := { name := "fnParseReadsTheNumeralItIsGiven", vars := ["example.com/tuoguan/tuoguan/pkg/decimal.errTooLong"], fn := fun _ => fun
  | [d1, d2, d3, d4, d5, d6, g1] => { results := [.lit (.bool true)], args := [d1, d2, d3, d4, d5, d6], vars := [g1] }
  | _ => none }
def fnParseReadsTheNumeralItIsGivenRow : OpenClaim := { program := "qxb6002384afmt", sum := "0ed238f0b4841a6a9c81424c930065f2fa36c95b3264d8e8bec6c0e91cf22639", func := "example.com/tuoguan/tuoguan/zzlaws_pkg_decimal_f1.FnParseReadsTheNumeralItIsGiven", spec := "fnParseReadsTheNumeralItIsGiven", stops := ["fmt.errorf", "fmt.Sprintf"], inPlace := ["internal/bytealg.IndexByteString", "internal/bytealg.IndexString", "fmt.errorf", "fmt.Sprintf", "math/big.mulAddVWW", "math/bits.Add64", "math/big.rshVU"], unfollowed := true, recurses := true, named := ["example.com/tuoguan/tuoguan/pkg/decimal.errTooLong", "internal/bytealg.MaxLen", "io.EOF", "math/big.errInvalSep", "math/big.errNoDigits"], ifaces := true, apart := false, laid := [("io.EOF", laid_io_EOF), ("math/big.errNoDigits", laid_math_big_errNoDigits), ("math/big.errInvalSep", laid_math_big_errInvalSep), ("example.com/tuoguan/tuoguan/pkg/decimal.errTooLong", laid_example_com_tuoguan_tuoguan_pkg_decimal_errTooLong)] }
/-- NO THEOREM (fmt's text is open here; it may be false): for the released tool's asking of the row's closed facts alone. THE STATEMENT IS 'FnParseReadsTheNumeralItIsGivenToldSaid' (Qxb6002384aFmtCards.lean). -/
def FnParseReadsTheNumeralItIsGivenFormAsk : Prop := fnParseReadsTheNumeralItIsGivenRow.holds Tryf.pinned (OpenSpec.ofChange fnParseReadsTheNumeralItIsGivenSpec)

/-- ITS FALSE NEIGHBOUR: 'it returns false'. Refute it at one input. -/
def fnParseReadsTheNumeralItIsGivenWrong : ChangeSpec := { name := "fnParseReadsTheNumeralItIsGiven", vars := ["example.com/tuoguan/tuoguan/pkg/decimal.errTooLong"], fn := fun _ => fun
  | [d1, d2, d3, d4, d5, d6, g1] => { results := [.lit (.bool false)], args := [d1, d2, d3, d4, d5, d6], vars := [g1] }
  | _ => none }
def FnParseReadsTheNumeralItIsGivenWrongFormAsk : Prop := fnParseReadsTheNumeralItIsGivenRow.holds Tryf.pinned (OpenSpec.ofChange fnParseReadsTheNumeralItIsGivenWrong)

end Rows
end Go.Proofs.Qxb6002384aFmt
