/-
  THE WALKS of the three readers of a Decimal's fields.
-/
import Derived.Test.Qxb6002384aFmtPlain
set_option linter.unusedVariables false
namespace Go.Proofs.Qxb6002384aFmt
open Go.RowKit

theorem BI.below {w w' : World} {b : Nat} {neg : Bool} {z : Value} {B : Nat} (h : BI w b neg z) (hb : Below B w w') (hB : b < B) : BI w' b neg z := (hb.block b hB).trans h
theorem BI.lt {w : World} {b : Nat} {neg : Bool} {z : Value} (h : BI w b neg z) : b < w.heap.size := by
  rcases Nat.lt_or_ge b w.heap.size with h1 | h1
  · exact h1
  · unfold BI at h
    rw [Array.getElem?_eq_none h1] at h
    cases h
theorem ZIs.below {base : Nat} {w w' : World} {z : Value} {A cap : Nat} (h : ZIs base w z A cap) (hb : Below w.heap.size w w') : ZIs base w' z A cap := by
  rcases h with h | ⟨h0, zb, h1, h2, h3, h4⟩
  · exact .inl h
  · exact .inr ⟨h0, zb, h1, Nat.lt_of_lt_of_le h2 hb.size, h3, (hb.cell (p := ⟨zb, 0, none⟩) h2).trans h4⟩

set_option maxHeartbeats 400000 in
theorem zzplaces (p : Option Addr) (k : Int) (w : World) : Calls Tryf.prog 9 #[.agg #[.pointer p, .int .i64 k]] w fun e w' => e = .returned (.int .i64 k) ∧ Below w.heap.size w w' := by
  go_enter Tryf.func9, Tryf.ntmps9
  go_wp2
  go_ret
  exact ⟨rfl, (Below.refl _ _).alloc (Nat.le_refl _) _⟩

set_option maxHeartbeats 400000 in
theorem zzIs (bz base A cap : Nat) (ng : Bool) (z : Value) (k : Int) (w : World) (hZ : BI w bz ng z) (h : ZIs base w z A cap) (hA : A < 9223372036854775808) : Calls Tryf.prog 10 #[.agg #[.pointer (some ⟨bz, 0, none⟩), .int .i64 k]] w fun e w' => e = .returned (.bool true) ∧ Below w.heap.size w w' := by
  have hb : Below w.heap.size w (w.alloc (.cells #[.pointer (some ⟨bz, 0, none⟩), .int .i64 k] 25)) := (Below.refl _ _).alloc (Nat.le_refl _) _
  have hI := isInt64_any bz base A cap ng z _ (hZ.below hb hZ.lt) (h.below hb) hA
  go_enter Tryf.func10, Tryf.ntmps10
  go_wp2_with fail
  refine hI.mono ?_
  rintro e w1 ⟨rfl, hw⟩
  rw [hw]; clear hw w1
  go_wp2_with fail
  go_ret
  exact ⟨rfl, hb⟩

set_option maxHeartbeats 400000 in
theorem zzInt (bz base A cap : Nat) (ng : Bool) (z : Value) (k : Int) (w : World) (hZ : BI w bz ng z) (h : ZIs base w z A cap) (hA : A < 9223372036854775808) : Calls Tryf.prog 11 #[.agg #[.pointer (some ⟨bz, 0, none⟩), .int .i64 k]] w fun e w' => e = .returned (.int .i64 (if ng then -(A : Int) else A)) ∧ Below w.heap.size w w' := by
  have hb : Below w.heap.size w (w.alloc (.cells #[.pointer (some ⟨bz, 0, none⟩), .int .i64 k] 25)) := (Below.refl _ _).alloc (Nat.le_refl _) _
  have hI := int64_any bz base A cap ng z _ (hZ.below hb hZ.lt) (h.below hb) hA
  generalize (if ng then -(A : Int) else (A : Int)) = r at hI ⊢
  go_enter Tryf.func11, Tryf.ntmps11
  go_wp2_with fail
  refine hI.mono ?_
  rintro e w1 ⟨rfl, hw⟩
  rw [hw]; clear hw w1
  go_wp2_with fail
  go_ret
  exact ⟨rfl, hb⟩
end Go.Proofs.Qxb6002384aFmt
