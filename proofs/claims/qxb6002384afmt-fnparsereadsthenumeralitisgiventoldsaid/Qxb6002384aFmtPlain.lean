/-
  THE PLAIN LAWS: what numerals read as.
-/
import Derived.Test.Qxb6002384aFmtNumeral2
set_option linter.unusedVariables false
namespace Go.Proofs.Qxb6002384aFmt

theorem num_append (a : Nat) (X Y : List UInt8) : num a (X ++ Y) = num (num a X) Y := by unfold num; rw [List.foldl_append]
theorem num_acc (L : List UInt8) : ∀ a, num a L = a * 10 ^ L.length + num 0 L := by
  induction L with
  | nil => intro a; simp [num]
  | cons c l ih =>
    intro a
    have e1 : num a (c :: l) = num (a * 10 + (c.toNat - 48)) l := rfl
    have e2 : num 0 (c :: l) = num (0 * 10 + (c.toNat - 48)) l := rfl
    rw [e1, e2, ih, ih (0 * 10 + (c.toNat - 48)), List.length_cons, Nat.pow_succ, Nat.add_mul, Nat.add_mul, Nat.mul_assoc, Nat.mul_comm 10]
    omega
theorem num_zeros (k a : Nat) : num a (List.replicate k 48) = a * 10 ^ k := by
  induction k generalizing a with
  | zero => simp [num]
  | succ k ih =>
    have e1 : num a (List.replicate (k + 1) 48) = num (a * 10 + 0) (List.replicate k 48) := rfl
    rw [e1, ih, Nat.pow_succ, Nat.add_zero, Nat.mul_assoc, Nat.mul_comm 10]
theorem num_numeral (n : Nat) : num 0 (numeral n) = n := by
  induction n using Nat.strongRecOn with
  | ind n ih =>
    rw [numeral_eq]
    split
    · rename_i h
      show 0 * 10 + ((dig n).toNat - 48) = n
      rw [dig_nat]
      omega
    · rename_i h
      rw [num_append, ih (n / 10) (by omega)]
      show n / 10 * 10 + ((dig n).toNat - 48) = n
      rw [dig_nat]
      omega
theorem numeral_ne (n : Nat) : numeral n ≠ [] := by
  rw [numeral_eq]
  split <;> simp
theorem numeral_digits (n : Nat) : Digits (numeral n) := by
  induction n using Nat.strongRecOn with
  | ind n ih =>
    rw [numeral_eq]
    have hd : 48 ≤ (dig n).toNat ∧ (dig n).toNat ≤ 57 := by rw [dig_nat]; omega
    split
    · intro c hc
      rw [List.mem_singleton] at hc
      rw [hc]
      exact hd
    · rename_i h
      intro c hc
      rcases List.mem_append.1 hc with h1 | h1
      · exact ih (n / 10) (by omega) c h1
      · rw [List.mem_singleton] at h1
        rw [h1]
        exact hd
theorem numeral_len (k : Nat) : ∀ n, n < 10 ^ (k + 1) → (numeral n).length ≤ k + 1 := by
  induction k with
  | zero =>
    intro n h
    rw [numeral_eq, dif_pos (by simp at h; omega)]
    simp
  | succ k ih =>
    intro n h
    rw [numeral_eq]
    split
    · simp
    · have := ih (n / 10) (by rw [Nat.pow_succ] at h; omega)
      simp
      omega
theorem zeros_digits (k : Nat) : Digits (List.replicate k 48) := by
  intro c hc
  rw [(List.mem_replicate.1 hc).2]
  decide
theorem digits_append {X Y : List UInt8} (h : Digits X) (h2 : Digits Y) : Digits (X ++ Y) := fun c hc => by
  rcases List.mem_append.1 hc with h1 | h1
  · exact h c h1
  · exact h2 c h1

/-- The digits of a part: zeros, then the number. -/
def part (z n : Nat) : List UInt8 := List.replicate z 48 ++ numeral n
theorem part_digits (z n : Nat) : Digits (part z n) := digits_append (zeros_digits z) (numeral_digits n)
theorem part_ne (z n : Nat) : part z n ≠ [] := by
  unfold part
  have := numeral_ne n
  simp [this]
theorem num_part (z n : Nat) : num 0 (part z n) = n := by
  unfold part
  rw [num_append, num_zeros, Nat.zero_mul, num_numeral]
theorem part_len (z n k : Nat) (hn : n < 10 ^ (k + 1)) : (part z n).length ≤ z + (k + 1) := by
  unfold part
  have := numeral_len k n hn
  simp
  omega
end Go.Proofs.Qxb6002384aFmt
