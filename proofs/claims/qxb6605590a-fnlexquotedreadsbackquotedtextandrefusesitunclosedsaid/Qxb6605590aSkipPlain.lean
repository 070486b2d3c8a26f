/-
  THE PLAIN LAW OF skipSpaceAndComments: what is left of a text behind white space and comments. No Go in sight.
-/
import Derived.Lib.Bytealg
import Derived.Lib.Strings
namespace Go.Proofs.Qxb6605590a.Plain

def sBlank (c : UInt8) : Bool := c == 32 || c == 9 || c == 10 || c == 13 || c == 12 || c == 11

/-- Modes: 0: between tokens; 1: in a line comment; d + 2: in block comments of depth d. -/
def sScan : List UInt8 → Nat → Option (List UInt8)
  | [], 0 => some []
  | [], 1 => some []
  | [], _ + 2 => none
  | a :: l, 1 => if a == 10 then sScan l 0 else sScan l 1
  | [a], 0 => if sBlank a then sScan [] 0 else some [a]
  | a :: b :: l, 0 => if sBlank a then sScan (b :: l) 0 else if a == 45 && b == 45 then sScan l 1 else if a == 47 && b == 42 then sScan l 3 else some (a :: b :: l)
  | [_], d + 2 => sScan [] (d + 2)
  | a :: b :: l, d + 2 => if a == 47 && b == 42 then sScan l (d + 3) else if a == 42 && b == 47 then (if d == 1 then sScan l 0 else sScan l (d + 1)) else sScan (b :: l) (d + 2)

/-- Does the list open with these two bytes? -/
def sAt2 (l : List UInt8) (x y : UInt8) : Bool := Lib.hasPrefix l [x, y]

theorem sAt2_iff (l : List UInt8) (x y : UInt8) : sAt2 l x y = true ↔ ∃ t, l = x :: y :: t := by
  unfold sAt2 Lib.hasPrefix
  match l with
  | [] => simp [List.isPrefixOf]
  | [a] => simp [List.isPrefixOf]
  | a :: b :: t =>
    simp only [List.isPrefixOf, Bool.and_true, Bool.and_eq_true, beq_iff_eq, List.cons.injEq]
    exact ⟨fun ⟨e1, e2⟩ => ⟨t, e1.symm, e2.symm, rfl⟩, fun ⟨_, e1, e2, _⟩ => ⟨e1.symm, e2.symm⟩⟩

/-- A token stands here: the text is at its end, or opens with no sBlank and with no comment. -/
def sTok (l : List UInt8) : Bool := match l with
  | [] => true
  | a :: _ => !sBlank a && !sAt2 l 45 45 && !sAt2 l 47 42

theorem sScan_spec : ∀ (l : List UInt8) (m : Nat) (r : List UInt8), sScan l m = some r → (∃ u, l = u ++ r) ∧ sTok r = true
  | [], 0, r, h => by simp [sScan] at h; subst h; exact ⟨⟨[], rfl⟩, rfl⟩
  | [], 1, r, h => by simp [sScan] at h; subst h; exact ⟨⟨[], rfl⟩, rfl⟩
  | [], d + 2, r, h => by simp [sScan] at h
  | a :: l, 1, r, h => by
    have g : ∀ m, sScan l m = some r → (∃ u, a :: l = u ++ r) ∧ sTok r = true := fun m hm => by
      obtain ⟨⟨u, hu⟩, ht⟩ := sScan_spec l m r hm
      exact ⟨⟨a :: u, by rw [hu]; rfl⟩, ht⟩
    unfold sScan at h
    split at h
    · exact g _ h
    · exact g _ h
  | [a], 0, r, h => by
    unfold sScan at h
    split at h
    · obtain ⟨⟨u, hu⟩, ht⟩ := sScan_spec [] 0 r h
      exact ⟨⟨a :: u, by rw [List.cons_append, ← hu]⟩, ht⟩
    · rename_i hb
      simp at h; subst h
      refine ⟨⟨[], rfl⟩, ?_⟩
      simp [sTok, sAt2, Lib.hasPrefix, List.isPrefixOf, hb]
  | a :: b :: l, 0, r, h => by
    have g1 : ∀ m, sScan (b :: l) m = some r → (∃ u, a :: b :: l = u ++ r) ∧ sTok r = true := fun m hm => by
      obtain ⟨⟨u, hu⟩, ht⟩ := sScan_spec (b :: l) m r hm
      exact ⟨⟨a :: u, by rw [hu]; rfl⟩, ht⟩
    have g2 : ∀ m, sScan l m = some r → (∃ u, a :: b :: l = u ++ r) ∧ sTok r = true := fun m hm => by
      obtain ⟨⟨u, hu⟩, ht⟩ := sScan_spec l m r hm
      exact ⟨⟨a :: b :: u, by rw [hu]; rfl⟩, ht⟩
    unfold sScan at h
    split at h
    · exact g1 _ h
    · split at h
      · exact g2 _ h
      · split at h
        · exact g2 _ h
        · rename_i hb h1 h2
          simp at h; subst h
          refine ⟨⟨[], rfl⟩, ?_⟩
          have n1 : sAt2 (a :: b :: l) 45 45 = false := by
            rw [Bool.eq_false_iff]
            intro hc
            obtain ⟨t, ht⟩ := (sAt2_iff ..).1 hc
            simp only [List.cons.injEq] at ht
            exact h1 (by simp [ht.1, ht.2.1])
          have n2 : sAt2 (a :: b :: l) 47 42 = false := by
            rw [Bool.eq_false_iff]
            intro hc
            obtain ⟨t, ht⟩ := (sAt2_iff ..).1 hc
            simp only [List.cons.injEq] at ht
            exact h2 (by simp [ht.1, ht.2.1])
          simp [sTok, n1, n2, hb]
  | [_], d + 2, r, h => by simp [sScan] at h
  | a :: b :: l, d + 2, r, h => by
    have g1 : ∀ m, sScan (b :: l) m = some r → (∃ u, a :: b :: l = u ++ r) ∧ sTok r = true := fun m hm => by
      obtain ⟨⟨u, hu⟩, ht⟩ := sScan_spec (b :: l) m r hm
      exact ⟨⟨a :: u, by rw [hu]; rfl⟩, ht⟩
    have g2 : ∀ m, sScan l m = some r → (∃ u, a :: b :: l = u ++ r) ∧ sTok r = true := fun m hm => by
      obtain ⟨⟨u, hu⟩, ht⟩ := sScan_spec l m r hm
      exact ⟨⟨a :: b :: u, by rw [hu]; rfl⟩, ht⟩
    unfold sScan at h
    split at h
    · exact g2 _ h
    · split at h
      · split at h
        · exact g2 _ h
        · exact g2 _ h
      · exact g1 _ h

/-! ### The steps, as the loops take them -/
theorem sScan_nil : sScan [] 0 = some [] := rfl
theorem sScan_nil_in (d : Nat) : sScan [] (d + 2) = none := rfl
theorem sScan_blank (a : UInt8) (l : List UInt8) (h : sBlank a = true) : sScan (a :: l) 0 = sScan l 0 := by
  cases l with
  | nil => simp [sScan, h]
  | cons b l => simp [sScan, h]
theorem sScan_line (l : List UInt8) (h : sAt2 l 45 45 = true) : sScan l 0 = sScan l 1 := by
  obtain ⟨t, rfl⟩ := (sAt2_iff ..).1 h
  simp [sScan, sBlank]
/-- In a line comment: on to the byte behind the first line feed, or to the end. -/
theorem sScan_one (l : List UInt8) : (Lib.indexByte l 10 = -1 ∧ sScan l 1 = some []) ∨ (∃ k : Nat, Lib.indexByte l 10 = k ∧ k < l.length ∧ sScan l 1 = sScan (l.drop (k + 1)) 0) := by
  induction l with
  | nil => exact .inl ⟨rfl, rfl⟩
  | cons a l ih =>
    by_cases ha : a = 10
    · right
      subst ha
      exact ⟨0, by simp [Lib.indexByte], by simp, by simp [sScan]⟩
    · have e : sScan (a :: l) 1 = sScan l 1 := by simp [sScan, ha]
      have hb : (a == 10) = false := by simpa using ha
      rcases ih with ⟨h1, h2⟩ | ⟨k, h1, h2, h3⟩
      · left
        exact ⟨by simp [Lib.indexByte, ha, h1], by rw [e, h2]⟩
      · right
        have hk : ((k : Int) == -1) = false := by rw [beq_eq_false_iff_ne]; omega
        exact ⟨k + 1, by simp [Lib.indexByte, ha, h1, hk], by simp; omega, by rw [e, h3]; simp⟩
theorem sScan_open (l : List UInt8) (h : sAt2 l 47 42 = true) : sScan l 0 = sScan l 2 := by
  obtain ⟨t, rfl⟩ := (sAt2_iff ..).1 h
  simp [sScan, sBlank]
theorem sScan_in_open (l : List UInt8) (d : Nat) (h : sAt2 l 47 42 = true) : sScan l (d + 2) = sScan (l.drop 2) (d + 3) := by
  obtain ⟨t, rfl⟩ := (sAt2_iff ..).1 h
  simp [sScan]
theorem sScan_in_close (l : List UInt8) (d : Nat) (h : sAt2 l 42 47 = true) : sScan l (d + 2) = if d == 1 then sScan (l.drop 2) 0 else sScan (l.drop 2) (d + 1) := by
  obtain ⟨t, rfl⟩ := (sAt2_iff ..).1 h
  simp [sScan]
theorem sScan_in_byte (l : List UInt8) (d : Nat) (h1 : sAt2 l 47 42 = false) (h2 : sAt2 l 42 47 = false) : sScan l (d + 2) = sScan (l.drop 1) (d + 2) := by
  match l with
  | [] => rfl
  | [a] => rfl
  | a :: b :: t =>
    have n1 : ¬ (a = 47 ∧ b = 42) := fun ⟨e1, e2⟩ => by rw [(sAt2_iff ..).2 ⟨t, by rw [e1, e2]⟩] at h1; cases h1
    have n2 : ¬ (a = 42 ∧ b = 47) := fun ⟨e1, e2⟩ => by rw [(sAt2_iff ..).2 ⟨t, by rw [e1, e2]⟩] at h2; cases h2
    simp [sScan, n1, n2]
theorem sScan_tok (l : List UInt8) (h : sTok l = true) : sScan l 0 = some l := by
  match l with
  | [] => rfl
  | [a] => simp [sTok] at h; simp [sScan, h.1.1]
  | a :: b :: t =>
    simp only [sTok, Bool.and_eq_true, Bool.not_eq_true'] at h
    obtain ⟨⟨h0, h1⟩, h2⟩ := h
    have n1 : ¬ (a = 45 ∧ b = 45) := fun ⟨e1, e2⟩ => by rw [(sAt2_iff ..).2 ⟨t, by rw [e1, e2]⟩] at h1; cases h1
    have n2 : ¬ (a = 47 ∧ b = 42) := fun ⟨e1, e2⟩ => by rw [(sAt2_iff ..).2 ⟨t, by rw [e1, e2]⟩] at h2; cases h2
    simp [sScan, h0, n1, n2]

/-- What skipSpaceAndComments hands back. -/
def sAns (q : List UInt8) (i : Nat) : Int := match sScan (q.drop i) 0 with
  | none => -1
  | some r => (q.length : Int) - r.length

theorem sAns_shift (p q : List UInt8) (i : Nat) : sAns (p ++ q) (p.length + i) = if sAns q i < 0 then -1 else p.length + sAns q i := by
  unfold sAns
  rw [List.drop_append, List.drop_of_length_le (by omega : p.length ≤ p.length + i), List.nil_append, Nat.add_sub_cancel_left]
  cases h : sScan (q.drop i) 0 with
  | none => simp
  | some r =>
    obtain ⟨⟨u, hu⟩, _⟩ := sScan_spec _ _ _ h
    have : r.length ≤ (q.drop i).length := by rw [hu]; simp
    simp only [List.length_drop] at this
    simp only [List.length_append]
    rw [if_neg (by omega)]
    omega

theorem sAns_found (q : List UInt8) (i : Nat) (h : i ≤ q.length) : sAns q i = -1 ∨ ∃ r : Nat, sAns q i = r ∧ i ≤ r ∧ r ≤ q.length ∧ sTok (q.drop r) = true := by
  unfold sAns
  cases hs : sScan (q.drop i) 0 with
  | none => left; rfl
  | some r =>
    right
    obtain ⟨⟨u, hu⟩, ht⟩ := sScan_spec _ _ _ hs
    have hl : (q.drop i).length = u.length + r.length := by rw [hu]; simp
    simp only [List.length_drop] at hl
    refine ⟨i + u.length, ?_, by omega, by omega, ?_⟩
    · simp only; omega
    · rw [← List.drop_drop, hu]
      simpa using ht
end Go.Proofs.Qxb6605590a.Plain
