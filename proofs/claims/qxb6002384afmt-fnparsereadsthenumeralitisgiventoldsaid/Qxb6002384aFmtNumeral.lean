/-
  THE WALK of the law's own numeralOf.
-/
import Derived.Test.Qxb6002384aFmtParse
import Derived.OpenShut
set_option linter.unusedVariables false
namespace Go.Proofs.Qxb6002384aFmt
open Go.RowKit

theorem info5 : (Tryf.prog.info? 5).map (fun i => (i.zero, i.size, i.bytes)) = some (some (.int .u8 0), 1, 1) := by kernel_rfl

/-- The last digit. -/
def dig (n : Nat) : UInt8 := UInt8.ofNat (48 + n % 10)
theorem dig_nat (n : Nat) : (dig n).toNat = 48 + n % 10 := by
  unfold dig
  rw [UInt8.toNat_ofNat']
  omega
def numeralF : Nat → Nat → List UInt8
  | 0, n => [dig n]
  | k + 1, n => if n / 10 = 0 then [dig n] else numeralF k (n / 10) ++ [dig n]
theorem numeralF_any (k : Nat) : ∀ j n, n ≤ k → n ≤ j → numeralF k n = numeralF j n := by
  induction k with
  | zero =>
    intro j n h1 h2
    obtain rfl : n = 0 := by omega
    cases j with
    | zero => rfl
    | succ j => rfl
  | succ k ih =>
    intro j n h1 h2
    cases j with
    | zero =>
      obtain rfl : n = 0 := by omega
      rfl
    | succ j =>
      simp only [numeralF]
      split
      · rfl
      · rw [ih j (n / 10) (by omega) (by omega)]
def numeral (n : Nat) : List UInt8 := numeralF n n
theorem numeral_eq (n : Nat) : numeral n = if h : n / 10 = 0 then [dig n] else numeral (n / 10) ++ [dig n] := by
  unfold numeral
  cases n with
  | zero => rfl
  | succ n =>
    rw [numeralF]
    by_cases h : (n + 1) / 10 = 0
    · rw [if_pos h, dif_pos h]
    · rw [if_neg h, dif_neg h, numeralF_any n ((n + 1) / 10) ((n + 1) / 10) (by omega) (by omega)]

theorem byteCells_snoc (l : List UInt8) (b : UInt8) : Lib.byteCells (l ++ [b]) = Lib.byteCells l ++ [.int .u8 b.toNat] := by
  rw [Lib.byteCells_append]; rfl

/-- The array of twenty: its end holds these bytes. -/
def Arr (w : World) (T : Nat) (D : List UInt8) : Prop := ∃ cs : Array Value, w.heap[T]? = some (.cells cs 50 (0, 0)) ∧ cs.size = 20 ∧ ∀ t (h : t < D.length), cs[20 - D.length + t]? = some (.int .u8 (D[t].toNat : Int))
theorem Arr.cons {w : World} {T : Nat} {D : List UInt8} (h : Arr w T D) (j : Nat) (hj : j + 1 + D.length = 20) (d : UInt8) : Arr (w.setCell ⟨T, j, none⟩ (.int .u8 (d.toNat : Int))) T (d :: D) := by
  obtain ⟨cs, h1, h2, h3⟩ := h
  refine ⟨cs.set! j (.int .u8 (d.toNat : Int)), ?_, by simp [h2], ?_⟩
  · simp [World.setCell, Array.getElem?_modify, h1]
  · intro t ht
    simp only [List.length_cons] at ht ⊢
    rcases Nat.eq_zero_or_pos t with h0 | h0
    · subst h0
      have : 20 - (D.length + 1) + 0 = j := by omega
      rw [this]
      simp [Array.set!_eq_setIfInBounds, Array.getElem?_setIfInBounds, h2]
      omega
    · obtain ⟨t', rfl⟩ : ∃ t', t = t' + 1 := ⟨t - 1, by omega⟩
      have e1 : 20 - (D.length + 1) + (t' + 1) = 20 - D.length + t' := by omega
      rw [e1, Array.set!_eq_setIfInBounds, Array.getElem?_setIfInBounds_ne (by omega)]
      rw [h3 t' (by omega)]
      simp
theorem Arr.cell {w : World} {T : Nat} {D : List UInt8} (h : Arr w T D) (j : Nat) (hj : j < 20) : ∃ u, w.cell? ⟨T, j, none⟩ = some u := by
  obtain ⟨cs, h1, h2, h3⟩ := h
  refine ⟨cs[j], ?_⟩
  rw [Lib.cell_of_heap h1]
  simp
theorem Arr.frozen {w : World} {T : Nat} {D : List UInt8} (h : Arr w T D) (j : Nat) : w.frozen? ⟨T, j, none⟩ = false := by
  obtain ⟨cs, h1, h2, h3⟩ := h
  exact Lib.frozen_of_heap h1 j
theorem Arr.at {w : World} {T : Nat} {D : List UInt8} (h : Arr w T D) (t : Nat) (ht : t < D.length) : w.cell? ⟨T, 20 - D.length + t, none⟩ = some (.int .u8 (D[t].toNat : Int)) := by
  obtain ⟨cs, h1, h2, h3⟩ := h
  rw [Lib.cell_of_heap h1]
  exact h3 t ht
theorem Arr.kept {w w' : World} {T : Nat} {D : List UInt8} {r : Option Nat} (h : Arr w T D) (hg : w.grownBy w' r) (hr : r ≠ some T) (hT : T < w.heap.size) : Arr w' T D := by
  obtain ⟨cs, h1, h2, h3⟩ := h
  exact ⟨cs, (hg.block T hT (fun e => hr e.symm)).trans h1, h2, h3⟩
end Go.Proofs.Qxb6002384aFmt
