/-
  THE WALKS of math/big's nat: make, setWord, norm, mulAddVWW, mulAddWW at words.
-/
import Derived.Test.Qxb6002384aFmtRead
import Derived.Handy
import Derived.Laws.Twins
import Derived.Shelf.Spec.BitsCarry
import Derived.Laws.NewBlocks
set_option linter.unusedVariables false
namespace Go.Proofs.Qxb6002384aFmt
open Go.RowKit

theorem add64 (x y : Nat) (w : World) : (callFunc 65 #[.int .u64 x, .int .u64 y, .int .u64 0]).run Tryf.prog w =
    .ok (.value (.tuple #[.int .u64 (((x + y) % 18446744073709551616 : Nat) : Int), .int .u64 (((x + y) / 18446744073709551616 : Nat) : Int)])) w := by
  rw [run_callFunc_extern Tryf.func65 (by kernel_rfl) (by kernel_rfl) (by kernel_rfl) (e := add64Entry) (by kernel_rfl)]
  rw [run_add64 (x : Int) (y : Int) 0 (by omega) (by omega) (by omega) (by omega)]
  simp only [Result.andThen]
  congr 5 <;> omega

theorem enters55 (args : Array Value) (w : World) : (callFunc 55 args).run Tryf.prog w = .ok (.enter 28 args) w :=
  run_callFunc_twin (twin := Tryf.f28.name) Tryf.func55 (by kernel_rfl) (by kernel_rfl) (by kernel_rfl) (by kernel_rfl) Tryf.func28 (by kernel_rfl) (by kernel_rfl) (by kernel_rfl) args w

set_option maxHeartbeats 1000000 in
theorem bitsAdd (x y : Nat) (hx : x < 18446744073709551616) (hy : y < 18446744073709551616) (w : World) :
    Calls Tryf.prog 61 #[.int .u64 x, .int .u64 y, .int .u64 0] w fun e w' => e = .returned (.tuple #[.int .u64 (((x + y) % 18446744073709551616 : Nat) : Int), .int .u64 (((x + y) / 18446744073709551616 : Nat) : Int)]) ∧ w' = w := by
  have h65 := add64 x y w
  go_enter Tryf.func61, Tryf.ntmps61
  go_wp2
  go_ret2
  refine ⟨?_, rfl⟩
  go_num

set_option maxHeartbeats 1000000 in
theorem mulAddWWW (x y c : Nat) (h : x * y + c < 18446744073709551616) (hx : x < 18446744073709551616) (hy : y < 18446744073709551616) (w : World) :
    Calls Tryf.prog 56 #[.int .u64 x, .int .u64 y, .int .u64 c] w fun e w' => e = .returned (.tuple #[.int .u64 0, .int .u64 ((x * y + c : Nat) : Int)]) ∧ w' = w := by
  have e1 : x * y / 18446744073709551616 = 0 := Nat.div_eq_of_lt (by omega)
  have e2 : x * y % 18446744073709551616 = x * y := Nat.mod_eq_of_lt (by omega)
  have e3 : (x * y + c) / 18446744073709551616 = 0 := Nat.div_eq_of_lt (by omega)
  have e4 : (x * y + c) % 18446744073709551616 = x * y + c := Nat.mod_eq_of_lt (by omega)
  have e5 : x * y < 18446744073709551616 := by omega
  have e6 : c < 18446744073709551616 := by omega
  have hM := Tryf.bits_Mul x y hx hy w
  rw [e1, e2] at hM
  have hA := bitsAdd (x * y) c e5 e6 w
  rw [e3, e4] at hA
  generalize x * y = p at *
  go_enter Tryf.func56, Tryf.ntmps56
  go_wp2_with fail
  refine hM.mono ?_
  rintro e w1 ⟨rfl, hw⟩
  subst hw
  go_wp2_with fail
  refine hA.mono ?_
  rintro e w2 ⟨rfl, hw⟩
  subst hw
  go_wp2_with fail
  go_ret2
  exact ⟨by simp, rfl⟩

theorem info75 : (Tryf.prog.info? 75).map (fun i => (i.zero, i.size, i.bytes)) = some (some (.int .u64 0), 1, 8) := by kernel_rfl

set_option maxHeartbeats 1000000 in
theorem setWord_zero (w : World) : Calls Tryf.prog 54 #[.slice none 0 0, .int .u64 0] w fun e w' => e = .returned (.slice none 0 0) ∧ w' = w := by
  go_enter Tryf.func54, Tryf.ntmps54
  go_wp2
  go_ret
  exact ⟨rfl, rfl⟩

theorem make1 (w : World) : (Instr.makeSlice 45 (.int .i64 1) (.int .i64 1)).run Tryf.prog w = .ok (.slice (some ⟨w.heap.size, 0, none⟩) 1 1) (w.alloc (.cells #[.int .u64 0] 75)) := by
  obtain ⟨i0, hi, hz0, hz1, hz2⟩ := info_parts info75
  rw [run_make w 45 75 i0 (.int .u64 0) Tryf.underlying45 hi hz0 .i64 .i64 1 1 (by omega) (by omega) (by rw [hz2]; omega) (by omega), hz1]
  rw [show madeCells (Value.int .u64 0).cells (Int.toNat 1 * 1) = #[.int .u64 0] from by kernel_rfl]
  rfl
theorem make2 (w : World) : (Instr.makeSlice 45 (.int .i64 2) (.int .i64 6)).run Tryf.prog w = .ok (.slice (some ⟨w.heap.size, 0, none⟩) 2 6) (w.alloc (.cells #[.int .u64 0, .int .u64 0, .int .u64 0, .int .u64 0, .int .u64 0, .int .u64 0] 75)) := by
  obtain ⟨i0, hi, hz0, hz1, hz2⟩ := info_parts info75
  rw [run_make w 45 75 i0 (.int .u64 0) Tryf.underlying45 hi hz0 .i64 .i64 2 6 (by omega) (by omega) (by rw [hz2]; omega) (by omega), hz1]
  rw [show madeCells (Value.int .u64 0).cells (Int.toNat 6 * 1) = #[.int .u64 0, .int .u64 0, .int .u64 0, .int .u64 0, .int .u64 0, .int .u64 0] from by kernel_rfl]
  rfl

set_option maxHeartbeats 1000000 in
theorem setWord_pos (v : Nat) (hv : 0 < v) (w : World) : Calls Tryf.prog 54 #[.slice none 0 0, .int .u64 v] w fun e w' => e = .returned (.slice (some ⟨w.heap.size, 0, none⟩) 1 1) ∧ w' = w.alloc (.cells #[.int .u64 v] 75) := by
  have c1 : ((v : Int) == 0) = false := by simp; omega
  have hm := make1 w
  go_enter Tryf.func54, Tryf.ntmps54
  go_wp2
  go_ret
  exact ⟨rfl, rfl⟩

set_option maxHeartbeats 1000000 in
theorem mulAddWW_nil_zero (y : Nat) (hy : 0 < y) (w : World) : Calls Tryf.prog 49 #[.slice none 0 0, .slice none 0 0, .int .u64 y, .int .u64 0] w fun e w' => e = .returned (.slice none 0 0) ∧ w' = w := by
  go_enter Tryf.func49, Tryf.ntmps49
  go_wp2_with fail
  refine (setWord_zero _).mono ?_
  rintro e w1 ⟨rfl, hw⟩
  subst hw
  go_wp2_with fail
  go_ret
  exact ⟨rfl, rfl⟩

set_option maxHeartbeats 1000000 in
theorem mulAddWW_nil_pos (y v : Nat) (hv : 0 < v) (w : World) : Calls Tryf.prog 49 #[.slice none 0 0, .slice none 0 0, .int .u64 y, .int .u64 v] w fun e w' => e = .returned (.slice (some ⟨w.heap.size, 0, none⟩) 1 1) ∧ w' = w.alloc (.cells #[.int .u64 v] 75) := by
  go_enter Tryf.func49, Tryf.ntmps49
  go_wp2_with fail
  refine (setWord_pos v hv w).mono ?_
  rintro e w1 ⟨rfl, hw⟩
  rw [hw]; clear hw w1
  go_wp2_with fail
  go_ret
  exact ⟨rfl, rfl⟩

set_option maxHeartbeats 1000000 in
theorem norm_one (b c : Nat) (v : Nat) (w : World) (h0 : w.cell? ⟨b, 0, none⟩ = some (.int .u64 v)) (h1 : w.cell? ⟨b, 1, none⟩ = some (.int .u64 0)) (hv : 0 < v) (hc : 2 ≤ c) :
    Calls Tryf.prog 52 #[.slice (some ⟨b, 0, none⟩) 2 c] w fun e w' => e = .returned (.slice (some ⟨b, 0, none⟩) 1 c) ∧ w' = w := by
  have c1 : ((v : Int) == 0) = false := by simp; omega
  have c2 : ¬ ((c : Int) < 1) := by omega
  go_enter Tryf.func52, Tryf.ntmps52
  go_wp2
  go_rounds 3
  all_goals (go_ret; exact ⟨rfl, rfl⟩)

set_option maxHeartbeats 1000000 in
theorem mulAddVWW_one (bz bx cz cx x y r : Nat) (w : World) (h : x * y + r < 18446744073709551616) (hx : x < 18446744073709551616) (hy : y < 18446744073709551616) (hX : w.cell? ⟨bx, 0, none⟩ = some (.int .u64 x)) (hZ : w.cell? ⟨bz, 0, none⟩ = some (.int .u64 0)) (hF : w.frozen? ⟨bz, 0, none⟩ = false) :
    Calls Tryf.prog 28 #[.slice (some ⟨bz, 0, none⟩) 1 cz, .slice (some ⟨bx, 0, none⟩) 1 cx, .int .u64 y, .int .u64 r] w fun e w' => e = .returned (.int .u64 0) ∧ w' = w.setCell ⟨bz, 0, none⟩ (.int .u64 ((x * y + r : Nat) : Int)) := by
  have hM := mulAddWWW x y r h hx hy w
  generalize x * y + r = p at *
  go_enter Tryf.func28, Tryf.ntmps28
  go_wp2_with fail
  refine wp_loop_rounds 2 ?_
  rw [rounds_succ]
  go_wp2_with fail
  refine hM.mono ?_
  rintro e w1 ⟨rfl, hw⟩
  rw [hw]; clear hw w1
  go_wp2_with fail
  rw [rounds_succ]
  go_wp2_with fail
  go_ret
  exact ⟨rfl, rfl⟩

set_option maxHeartbeats 1000000 in
theorem make_two (b : Nat) (w : World) : Calls Tryf.prog 44 #[.slice (some ⟨b, 0, none⟩) 1 1, .int .i64 2] w fun e w' => e = .returned (.slice (some ⟨w.heap.size, 0, none⟩) 2 6) ∧ w' = w.alloc (.cells #[.int .u64 0, .int .u64 0, .int .u64 0, .int .u64 0, .int .u64 0, .int .u64 0] 75) := by
  have hm := make2 w
  go_enter Tryf.func44, Tryf.ntmps44
  go_wp2
  go_ret
  exact ⟨rfl, rfl⟩

set_option maxHeartbeats 1000000 in
theorem mulAddWW_one (b x y r : Nat) (w : World) (h : x * y + r < 18446744073709551616) (hx0 : 0 < x) (hy0 : 0 < y) (hx : x < 18446744073709551616) (hy : y < 18446744073709551616) (hb : b < w.heap.size) (hX : w.cell? ⟨b, 0, none⟩ = some (.int .u64 x)) :
    Calls Tryf.prog 49 #[.slice (some ⟨b, 0, none⟩) 1 1, .slice (some ⟨b, 0, none⟩) 1 1, .int .u64 y, .int .u64 r] w fun e w' => e = .returned (.slice (some ⟨w.heap.size, 0, none⟩) 1 6) ∧ w' = w.alloc (.cells #[.int .u64 ((x * y + r : Nat) : Int), .int .u64 0, .int .u64 0, .int .u64 0, .int .u64 0, .int .u64 0] 75) := by
  have c1 : ((y : Int) == 0) = false := by simp; omega
  have h55 := enters55
  have hp : 0 < x * y + r := Nat.lt_of_lt_of_le (Nat.mul_pos hx0 hy0) (Nat.le_add_right _ _)
  have hne : ¬ (b = w.heap.size) := by omega
  have hM := mulAddVWW_one w.heap.size b 6 1 x y r (w.alloc (.cells #[.int .u64 0, .int .u64 0, .int .u64 0, .int .u64 0, .int .u64 0, .int .u64 0] 75)) h hx hy (by rw [World.cell?_alloc_past _ _ _ hb]; exact hX) (by rw [Lib.cell_of_heap (heap_alloc_new w _)]; rfl) (Lib.frozen_of_heap (heap_alloc_new w _) 0)
  generalize x * y + r = p at *
  go_enter Tryf.func49, Tryf.ntmps49
  go_wp2_with fail
  refine (make_two b w).mono ?_
  rintro e w1 ⟨rfl, hw⟩
  rw [hw]; clear hw w1
  go_wp2_with fail
  refine hM.mono ?_
  rintro e w1 ⟨rfl, hw⟩
  rw [hw]; clear hw w1
  go_wp2_with fail
  refine (norm_one w.heap.size 6 p _ ?_ ?_ hp (by omega)).mono ?_
  case refine_1 => simp
  case refine_2 => simp
  rintro e w1 ⟨rfl, hw⟩
  rw [hw]; clear hw w1
  go_wp2_with fail
  go_ret
  exact ⟨rfl, rfl⟩
end Go.Proofs.Qxb6002384aFmt
