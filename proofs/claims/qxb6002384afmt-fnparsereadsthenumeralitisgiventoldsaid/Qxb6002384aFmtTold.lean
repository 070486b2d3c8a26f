/-
  THE TOLD ROW of FnParseReadsTheNumeralItIsGiven.
-/
import Derived.Test.Qxb6002384aFmtLaw
import Derived.Test.Qxb6002384aFmtLaid
import Derived.Stop.JoinedAt
import Derived.Stop.JoinedTold
import Derived.Stop.LaidErr
import Derived.Stop.ErrReads3
import Derived.Deep.DeepWitnessRef
import Derived.OpenVars
set_option linter.unusedVariables false
namespace Go.Proofs.Qxb6002384aFmt
open Go.ChangeShapes Go.WideShapes Go.ChangeAt Go.RowKit
open Go.Extern.Stop Go.Stop Go.Extern

theorem own : ownKnob Tryf.prog.godebug = none := by kernel_rfl
/-- The type's name, as the listed variables bear it. -/
def ptrName : String := match Rows.laid_io_EOF (H := Unit) with
  | .iface nm _ => nm
  | _ => "none"
theorem rows62 {c : String} (hc : c ++ "errors.errorString" = ptrName) : ((List.range Tryf.prog.types.size).all fun u => Tryf.prog.typeName? 3 u != some (c ++ "errors.errorString") || u == 62) = true := by
  rw [hc]
  kernel_rfl
theorem row62 (u : TypeId) (h : Tryf.prog.typeName? 3 u = some ptrName) : u = 62 :=
  typeName_ptr_named (nm := "errors.errorString") (rows62 (by decide)) (by kernel_rfl) (by decide) u (h.trans (congrArg some (by decide)))

set_option maxHeartbeats 1000000 in
theorem law_far (neg point : Bool) (lead zeros : Nat) (whole frac : Int) (w : World) (h : 4 < lead ∨ 4 < zeros) :
    Calls Tryf.prog 4 #[.bool neg, .int .u8 lead, .int .u32 whole, .bool point, .int .u8 zeros, .int .u16 frac] w fun e w' => e = .returned (.bool true) ∧ Below w.heap.size w w' := by
  by_cases hl : 4 < lead
  · have d1 : (4 : Int) < (lead : Int) := by omega
    go_enter Tryf.func4, Tryf.ntmps4
    go_wp2_with fail
    go_ret
    exact ⟨rfl, Below.refl _ _⟩
  · have d1 : ¬ ((4 : Int) < (lead : Int)) := by omega
    have d2 : (4 : Int) < (zeros : Int) := by omega
    go_enter Tryf.func4, Tryf.ntmps4
    go_wp2_with fail
    go_ret
    exact ⟨rfl, Below.refl _ _⟩

theorem law_all (neg point : Bool) (lead whole zeros frac : Nat) (ea : Addr) (w : World) (hwh : whole < 4294967296) (hfr : frac < 65536) (hE : Eof w (eofAt ea)) (h2 : 2 < w.heap.size) :
    Calls Tryf.prog 4 #[.bool neg, .int .u8 lead, .int .u32 whole, .bool point, .int .u8 zeros, .int .u16 frac] w fun e w' => e = .returned (.bool true) ∧ Below w.heap.size w w' := by
  by_cases h : 4 < lead ∨ 4 < zeros
  · exact law_far neg point lead zeros whole frac w h
  · cases neg with
    | true => exact law_neg lead whole zeros frac point ea w (by omega) (by omega) hwh hfr hE h2
    | false => exact law_pos lead whole zeros frac point ea w (by omega) (by omega) hwh hfr hE h2
end Go.Proofs.Qxb6002384aFmt
