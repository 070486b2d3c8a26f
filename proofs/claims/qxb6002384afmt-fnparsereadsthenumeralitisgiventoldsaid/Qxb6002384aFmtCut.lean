/-
  THE WALK of strings.Cut at the separator '.'.
-/
import Derived.Test.Qxb6002384aFmtInts2
set_option linter.unusedVariables false
namespace Go.Proofs.Qxb6002384aFmt
open Go.RowKit

set_option maxHeartbeats 1000000 in
theorem cut_none (S : ByteArray) (w : World) (h : Lib.indexByte S.data.toList 46 = -1) :
    Calls Tryf.prog 12 #[.string S, .string ⟨#[46]⟩] w fun e w' => e = .returned (.tuple #[.string S, .string ⟨#[]⟩, .bool false]) ∧ w' = w := by
  have hI := Tryf.stringslite_Index_one S 46 w
  rw [h] at hI
  go_enter Tryf.func12, Tryf.ntmps12
  go_wp2_with fail
  go_in
  go_wp2_with fail
  refine hI.mono ?_
  rintro e w1 ⟨rfl, hw⟩
  rw [hw]; clear hw w1
  go_wp2
  go_ret3
  exact ⟨rfl, rfl⟩

set_option maxHeartbeats 1000000 in
theorem cut_some (S : ByteArray) (i : Nat) (w : World) (h : Lib.indexByte S.data.toList 46 = i) (hi : i < S.size) (hs : S.size ≤ 1000) :
    Calls Tryf.prog 12 #[.string S, .string ⟨#[46]⟩] w fun e w' => e = .returned (.tuple #[.string (S.extract 0 i), .string (S.extract (i + 1) S.size), .bool true]) ∧ ∃ n, w' = w.drewN n := by
  have hI := Tryf.stringslite_Index_one S 46 w
  rw [h] at hI
  have c1 : (0 : Int) ≤ (i : Int) := by omega
  have c2 : (i : Int) + 1 ≤ (S.size : Int) := by omega
  go_enter Tryf.func12, Tryf.ntmps12
  go_wp2_with fail
  go_in
  go_wp2_with fail
  refine hI.mono ?_
  rintro e w1 ⟨rfl, hw⟩
  rw [hw]; clear hw w1
  go_wp2_with fail
  go_quiet (fail)
  go_wp2
  go_ret3
  exact ⟨rfl, _, rfl⟩
end Go.Proofs.Qxb6002384aFmt
