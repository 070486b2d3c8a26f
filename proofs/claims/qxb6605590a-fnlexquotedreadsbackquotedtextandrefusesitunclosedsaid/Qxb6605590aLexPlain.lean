/-
  THE PLAIN LAW OF lexQuoted: a quoted text, read a byte at a time. No Go in sight.
-/
import Derived.Lib.Bytealg
import Derived.Lib.Strings
namespace Go.Proofs.Qxb6605590a.Plain

/-- Behind the opening quote: the text read (with what was read before it), and what is left behind the closing quote. -/
def lexA : List UInt8 → UInt8 → List UInt8 → Option (List UInt8 × List UInt8)
  | [], _, _ => none
  | [c], q, acc => if c == q then some (acc, []) else none
  | c :: d :: l, q, acc => if c == q then (if d == q then lexA l q (acc ++ [q]) else some (acc, d :: l)) else lexA (d :: l) q (acc ++ [c])

theorem lexA_byte (c : UInt8) (l : List UInt8) (q : UInt8) (acc : List UInt8) (h : (c == q) = false) : lexA (c :: l) q acc = lexA l q (acc ++ [c]) := by
  cases l with
  | nil => simp [lexA, h]
  | cons d l => simp [lexA, h]
theorem lexA_two (l : List UInt8) (q : UInt8) (acc : List UInt8) : lexA (q :: q :: l) q acc = lexA l q (acc ++ [q]) := by
  simp [lexA]
theorem lexA_end (l : List UInt8) (q : UInt8) (acc : List UInt8) (h : l.head? ≠ some q) : lexA (q :: l) q acc = some (acc, l) := by
  cases l with
  | nil => simp [lexA]
  | cons d l => simp at h; simp [lexA, h]
theorem lexA_run (l : List UInt8) (q : UInt8) : ∀ acc, (Lib.indexByte l q = -1 ∧ lexA l q acc = none) ∨ (∃ n : Nat, Lib.indexByte l q = n ∧ n < l.length ∧ l.drop n = q :: l.drop (n + 1) ∧ lexA l q acc = lexA (l.drop n) q (acc ++ l.take n)) := by
  induction l with
  | nil => intro acc; exact .inl ⟨rfl, rfl⟩
  | cons c l ih =>
    intro acc
    by_cases hc : c = q
    · right
      subst hc
      exact ⟨0, by simp [Lib.indexByte], by simp, by simp, by simp⟩
    · have hb : (c == q) = false := by simpa using hc
      rcases ih (acc ++ [c]) with ⟨h1, h2⟩ | ⟨n, h1, h2, h3, h4⟩
      · left
        exact ⟨by simp [Lib.indexByte, hb, h1], by rw [lexA_byte _ _ _ _ hb, h2]⟩
      · right
        have hk : ((n : Int) == -1) = false := by rw [beq_eq_false_iff_ne]; omega
        exact ⟨n + 1, by simp [Lib.indexByte, hb, h1, hk], by simp; omega, by simpa using h3, by rw [lexA_byte _ _ _ _ hb, h4]; simp⟩
theorem lexA_fits (l : List UInt8) (q : UInt8) : ∀ (acc t r : List UInt8), lexA l q acc = some (t, r) → r.length < l.length := by
  match l with
  | [] => intro acc t r h; simp [lexA] at h
  | [c] =>
    intro acc t r h
    by_cases hc : (c == q) = true
    · simp [lexA, hc] at h; simp [← h.2]
    · simp [lexA, hc] at h
  | c :: d :: l =>
    intro acc t r h
    unfold lexA at h
    split at h
    · split at h
      · have := lexA_fits l q _ _ _ h
        simp; omega
      · simp at h; simp [← h.2]
    · have := lexA_fits (d :: l) q _ _ _ h
      simp at this ⊢; omega

/-- The three results: the text, the place behind it, and whether it is closed. -/
def lexText (l : List UInt8) (k : Nat) (q : UInt8) : List UInt8 := match lexA (l.drop (k + 1)) q [] with
  | none => []
  | some (t, _) => t
def lexEnd (l : List UInt8) (k : Nat) (q : UInt8) : Int := match lexA (l.drop (k + 1)) q [] with
  | none => 0
  | some (_, r) => (l.length : Int) - r.length
def lexOk (l : List UInt8) (k : Nat) (q : UInt8) : Bool := (lexA (l.drop (k + 1)) q []).isSome

/-- The text with each quote doubled. -/
def dbl (s : List UInt8) (q : UInt8) : List UInt8 := match s with
  | [] => []
  | c :: s => if c == q then c :: q :: dbl s q else c :: dbl s q

theorem lexA_dbl (s : List UInt8) (q : UInt8) : ∀ (t acc : List UInt8), lexA (dbl s q ++ t) q acc = lexA t q (acc ++ s) := by
  induction s with
  | nil => intro t acc; simp [dbl]
  | cons c s ih =>
    intro t acc
    by_cases hc : c = q
    · subst hc
      simp only [dbl, beq_self_eq_true, if_true, List.cons_append]
      rw [lexA_two, ih]
      simp
    · have hb : (c == q) = false := by simpa using hc
      simp only [dbl, hb, Bool.false_eq_true, if_false, List.cons_append]
      rw [lexA_byte _ _ _ _ hb, ih]
      simp
theorem dbl_snoc (s : List UInt8) (c q : UInt8) : dbl (s ++ [c]) q = dbl s q ++ (if c == q then [c, q] else [c]) := by
  induction s with
  | nil => simp [dbl]
  | cons d s ih =>
    simp only [List.cons_append, dbl]
    split
    · rw [ih]; simp
    · rw [ih]; simp
theorem dbl_length (s : List UInt8) (q : UInt8) : (dbl s q).length ≤ 2 * s.length := by
  induction s with
  | nil => simp [dbl]
  | cons d s ih =>
    simp only [dbl]
    split <;> simp <;> omega
end Go.Proofs.Qxb6605590a.Plain
