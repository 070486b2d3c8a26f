/-
  THE PLAIN LAWS: JSON strings and groups, over lists of bytes. No Go in sight.
-/
import Derived.Lib.Bytealg
import Derived.Lib.Strings
namespace Go.Proofs.Qxb6606444a.Plain

def jOpen (c : UInt8) : Bool := c == 123 || c == 91
def jClose (c : UInt8) : Bool := c == 125 || c == 93

/-- Behind an opening quote: what is left behind the closing one. A backslash takes the byte behind it. -/
def strL : List UInt8 → Option (List UInt8)
  | [] => none
  | [c] => if c == 34 then some [] else none
  | c :: d :: l => if c == 92 then strL l else if c == 34 then some (d :: l) else strL (d :: l)

theorem strL_quote (l : List UInt8) : strL (34 :: l) = some l := by
  cases l <;> simp [strL]
theorem strL_byte (c : UInt8) (l : List UInt8) (h1 : (c == 92) = false) (h2 : (c == 34) = false) : strL (c :: l) = strL l := by
  cases l <;> simp [strL, h1, h2]
theorem strL_take (d : UInt8) (l : List UInt8) : strL (92 :: d :: l) = strL l := by
  simp [strL]
theorem strL_last : strL [92] = none := by simp [strL]

theorem strL_short : ∀ (l r : List UInt8), strL l = some r → r.length < l.length
  | [], r, h => by simp [strL] at h
  | [c], r, h => by
    by_cases hc : (c == 34) = true
    · simp [strL, hc] at h; simp [← h]
    · simp [strL, hc] at h
  | c :: d :: l, r, h => by
    unfold strL at h
    split at h
    · have := strL_short l r h; simp; omega
    · split at h
      · simp at h; simp [← h]
      · have := strL_short (d :: l) r h; simp at this ⊢; omega

theorem strL_suffix : ∀ (l r : List UInt8), strL l = some r → ∃ u, l = u ++ r
  | [], r, h => by simp [strL] at h
  | [c], r, h => by
    by_cases hc : (c == 34) = true
    · simp [strL, hc] at h; exact ⟨[c], by simp [← h]⟩
    · simp [strL, hc] at h
  | c :: d :: l, r, h => by
    unfold strL at h
    split at h
    · obtain ⟨u, hu⟩ := strL_suffix l r h; exact ⟨c :: d :: u, by rw [hu]; rfl⟩
    · split at h
      · simp at h; exact ⟨[c], by simp [← h]⟩
      · obtain ⟨u, hu⟩ := strL_suffix (d :: l) r h; exact ⟨c :: u, by rw [hu]; rfl⟩

/-- No quote: no end. -/
theorem strL_none : ∀ (l : List UInt8), (∀ x ∈ l, (x == 34) = false) → strL l = none
  | [], _ => rfl
  | [c], h => by simp [strL, h c (by simp)]
  | c :: d :: l, h => by
    unfold strL
    have hc := h c (by simp)
    have h1 := strL_none l (fun x hx => h x (by simp [hx]))
    have h2 := strL_none (d :: l) (fun x hx => h x (by simp at hx ⊢; exact .inr hx))
    simp [hc, h1, h2]

/-- Backslashes ahead of a quote: it closes the string where they are even in number. -/
theorem strL_slashes : ∀ (m : Nat) (r : List UInt8), strL (List.replicate m 92 ++ 34 :: r) = if m % 2 = 0 then some r else strL r
  | 0, r => by simp [strL_quote]
  | 1, r => by simp [strL]
  | m + 2, r => by
    have e : List.replicate (m + 2) (92 : UInt8) ++ 34 :: r = 92 :: 92 :: (List.replicate m 92 ++ 34 :: r) := by simp [List.replicate_succ]
    rw [e, strL_take, strL_slashes m r]
    have : (m + 2) % 2 = m % 2 := by omega
    rw [this]

/-- Bytes without a quote whose last is no backslash are passed over. -/
theorem strL_pass : ∀ (u t : List UInt8), (∀ x ∈ u, (x == 34) = false) → (∀ y, u.getLast? = some y → (y == 92) = false) → strL (u ++ t) = strL t
  | [], t, _, _ => rfl
  | [c], t, h, hl => strL_byte c t (hl c rfl) (h c (by simp))
  | c :: d :: u, t, h, hl => by
    by_cases hc : (c == 92) = true
    · have e : c = 92 := by simpa using hc
      subst e
      rw [List.cons_append, List.cons_append, strL_take]
      refine strL_pass u t (fun x hx => h x (by simp [hx])) fun y hy => hl y ?_
      cases u with
      | nil => simp at hy
      | cons z u => rw [List.getLast?_cons_cons, List.getLast?_cons_cons]; exact hy
    · rw [List.cons_append, strL_byte c _ (by simpa using hc) (h c (by simp))]
      refine strL_pass (d :: u) t (fun x hx => h x (by simp at hx ⊢; exact .inr hx)) fun y hy => hl y ?_
      rw [List.getLast?_cons_cons]; exact hy

/-- A group, read to the closer that ends it: 'd': how deep; 'b': inside a string; 'f': halt behind the first whole string. What is left, and whether it was halted. -/
def grp : List UInt8 → Nat → Bool → Bool → Option (List UInt8 × Bool)
  | [], _, _, _ => none
  | [c], d, true, f => if c == 34 then (if f then some ([], true) else grp [] d false f) else none
  | c :: e :: l, d, true, f => if c == 92 then grp l d true f else if c == 34 then (if f then some (e :: l, true) else grp (e :: l) d false f) else grp (e :: l) d true f
  | c :: l, d, false, f => if c == 34 then grp l d true f else if jOpen c then grp l (d + 1) false f else if jClose c then (if d == 1 then some (l, false) else grp l (d - 1) false f) else grp l d false f

theorem grp_s1 (c : UInt8) (d : Nat) (f : Bool) : grp [c] d true f = if c == 34 then (if f then some ([], true) else none) else none := by
  cases f <;> simp [grp]
theorem grp_s2 (c e : UInt8) (l : List UInt8) (d : Nat) (f : Bool) : grp (c :: e :: l) d true f = if c == 92 then grp l d true f else if c == 34 then (if f then some (e :: l, true) else grp (e :: l) d false f) else grp (e :: l) d true f := by
  rw [grp]
theorem grp_n (c : UInt8) (l : List UInt8) (d : Nat) (f : Bool) : grp (c :: l) d false f = if c == 34 then grp l d true f else if jOpen c then grp l (d + 1) false f else if jClose c then (if d == 1 then some (l, false) else grp l (d - 1) false f) else grp l d false f := by
  cases l with
  | nil => simp [grp]
  | cons e l => rw [grp]
theorem strL_s2 (c d : UInt8) (l : List UInt8) : strL (c :: d :: l) = if c == 92 then strL l else if c == 34 then some (d :: l) else strL (d :: l) := by
  rw [strL]

theorem grp_str : ∀ (l : List UInt8) (d : Nat) (f : Bool), grp l d true f = match strL l with
    | none => none
    | some r => if f then some (r, true) else grp r d false f
  | [], d, f => by simp [grp, strL]
  | [c], d, f => by
    rw [grp_s1]
    by_cases hc : (c == 34) = true
    · cases f <;> simp [strL, hc, grp]
    · simp [strL, hc]
  | c :: e :: l, d, f => by
    rw [grp_s2, strL_s2]
    split
    · exact grp_str l d f
    · split
      · rfl
      · exact grp_str (e :: l) d f

theorem grp_quote (l : List UInt8) (d : Nat) (f : Bool) : grp (34 :: l) d false f = grp l d true f := by simp [grp]
theorem grp_open (c : UInt8) (l : List UInt8) (d : Nat) (f : Bool) (h0 : (c == 34) = false) (h : jOpen c = true) : grp (c :: l) d false f = grp l (d + 1) false f := by simp [grp, h0, h]
theorem grp_close (c : UInt8) (l : List UInt8) (d : Nat) (f : Bool) (h0 : (c == 34) = false) (h1 : jOpen c = false) (h : jClose c = true) : grp (c :: l) d false f = if d == 1 then some (l, false) else grp l (d - 1) false f := by simp [grp, h0, h1, h]
theorem grp_byte (c : UInt8) (l : List UInt8) (d : Nat) (f : Bool) (h0 : (c == 34) = false) (h1 : jOpen c = false) (h2 : jClose c = false) : grp (c :: l) d false f = grp l d false f := by simp [grp, h0, h1, h2]

/-- A group within a group: read the inner one, then go on. -/
theorem grp_deep : ∀ (l : List UInt8) (d e : Nat) (b f : Bool), 1 ≤ d → 1 ≤ e → grp l (d + e) b f = match grp l d b f with
    | none => none
    | some (r, true) => some (r, true)
    | some (r, false) => grp r e false f
  | [], d, e, b, f, _, _ => by simp [grp]
  | [c], d, e, true, f, hd, he => by
    rw [grp_s1, grp_s1]
    split
    · cases f <;> rfl
    · rfl
  | c :: x :: l, d, e, true, f, hd, he => by
    rw [grp_s2, grp_s2 c x l d]
    split
    · exact grp_deep l d e true f hd he
    · split
      · cases f
        · exact grp_deep (x :: l) d e false false hd he
        · rfl
      · exact grp_deep (x :: l) d e true f hd he
  | c :: l, d, e, false, f, hd, he => by
    rw [grp_n, grp_n c l d]
    split
    · exact grp_deep l d e true f hd he
    · split
      · have := grp_deep l (d + 1) e false f (by omega) he
        rw [show d + e + 1 = d + 1 + e by omega]
        exact this
      · split
        · have h1 : (d + e == 1) = false := by simp; omega
          rw [h1]
          by_cases hd1 : d = 1
          · subst hd1
            simp
          · have h2 : (d == 1) = false := by simpa using hd1
            rw [h2]
            simp only [Bool.false_eq_true, if_false]
            have := grp_deep l (d - 1) e false f (by omega) he
            rw [show d + e - 1 = d - 1 + e by omega]
            exact this
        · exact grp_deep l d e false f hd he

/-- Not halted: the group ends with a closer, and reads alike whatever follows. -/
theorem grp_local : ∀ (l : List UInt8) (d : Nat) (b : Bool) (r : List UInt8) (s : Bool), grp l d b false = some (r, s) →
    ∃ u x, l = u ++ x :: r ∧ jClose x = true ∧ ∀ t, grp (u ++ x :: t) d b false = some (t, s)
  | [], d, b, r, s, h => by simp [grp] at h
  | [c], d, true, r, s, h => by
    rw [grp_s1] at h
    split at h
    · cases h
    · cases h
  | c :: e :: l, d, true, r, s, h => by
    rw [grp_s2] at h
    split at h
    · rename_i hc
      obtain ⟨u, x, h1, h2, h3⟩ := grp_local l d true r s h
      refine ⟨c :: e :: u, x, by rw [h1]; rfl, h2, fun t => ?_⟩
      rw [← h3 t, List.cons_append, List.cons_append, grp_s2, if_pos hc]
    · rename_i hc
      split at h
      · rename_i hq
        simp only [Bool.false_eq_true, if_false] at h
        obtain ⟨u, x, h1, h2, h3⟩ := grp_local (e :: l) d false r s h
        refine ⟨c :: u, x, by rw [h1]; rfl, h2, fun t => ?_⟩
        rw [← h3 t]
        cases hu : u ++ x :: t with
        | nil => simp at hu
        | cons z w => rw [List.cons_append, hu, grp_s2, if_neg hc, if_pos hq]; rfl
      · rename_i hq
        obtain ⟨u, x, h1, h2, h3⟩ := grp_local (e :: l) d true r s h
        refine ⟨c :: u, x, by rw [h1]; rfl, h2, fun t => ?_⟩
        rw [← h3 t]
        cases hu : u ++ x :: t with
        | nil => simp at hu
        | cons z w => rw [List.cons_append, hu, grp_s2, if_neg hc, if_neg hq]
  | c :: l, d, false, r, s, h => by
    rw [grp_n] at h
    split at h
    · rename_i hc
      obtain ⟨u, x, h1, h2, h3⟩ := grp_local l d true r s h
      exact ⟨c :: u, x, by rw [h1]; rfl, h2, fun t => by rw [← h3 t, List.cons_append, grp_n, if_pos hc]⟩
    · rename_i hc
      split at h
      · rename_i ho
        obtain ⟨u, x, h1, h2, h3⟩ := grp_local l (d + 1) false r s h
        exact ⟨c :: u, x, by rw [h1]; rfl, h2, fun t => by rw [← h3 t, List.cons_append, grp_n, if_neg hc, if_pos ho]⟩
      · rename_i ho
        split at h
        · rename_i hx
          split at h
          · rename_i hd
            simp at h
            exact ⟨[], c, by rw [h.1]; rfl, hx, fun t => by rw [List.nil_append, grp_n, if_neg hc, if_neg ho, if_pos hx, if_pos hd, h.2]⟩
          · rename_i hd
            obtain ⟨u, x, h1, h2, h3⟩ := grp_local l (d - 1) false r s h
            exact ⟨c :: u, x, by rw [h1]; rfl, h2, fun t => by rw [← h3 t, List.cons_append, grp_n, if_neg hc, if_neg ho, if_pos hx, if_neg hd]⟩
        · rename_i hx
          obtain ⟨u, x, h1, h2, h3⟩ := grp_local l d false r s h
          exact ⟨c :: u, x, by rw [h1]; rfl, h2, fun t => by rw [← h3 t, List.cons_append, grp_n, if_neg hc, if_neg ho, if_neg hx]⟩

/-- What is left is shorter. -/
theorem grp_suffix : ∀ (l : List UInt8) (d : Nat) (b f : Bool) (r : List UInt8) (s : Bool), grp l d b f = some (r, s) → ∃ u, l = u ++ r ∧ u ≠ []
  | [], d, b, f, r, s, h => by simp [grp] at h
  | [c], d, true, f, r, s, h => by
    rw [grp_s1] at h
    split at h
    · cases f <;> simp at h
      exact ⟨[c], by simp [h.1], by simp⟩
    · cases h
  | c :: e :: l, d, true, f, r, s, h => by
    rw [grp_s2] at h
    split at h
    · obtain ⟨u, h1, _⟩ := grp_suffix l d true f r s h
      exact ⟨c :: e :: u, by rw [h1]; rfl, by simp⟩
    · split at h
      · cases f
        · simp only [Bool.false_eq_true, if_false] at h
          obtain ⟨u, h1, _⟩ := grp_suffix (e :: l) d false false r s h
          exact ⟨c :: u, by rw [h1]; rfl, by simp⟩
        · simp at h
          exact ⟨[c], by rw [← h.1]; rfl, by simp⟩
      · obtain ⟨u, h1, _⟩ := grp_suffix (e :: l) d true f r s h
        exact ⟨c :: u, by rw [h1]; rfl, by simp⟩
  | c :: l, d, false, f, r, s, h => by
    have g : ∀ d b, grp l d b f = some (r, s) → ∃ u, c :: l = u ++ r ∧ u ≠ [] := fun d b hm => by
      obtain ⟨u, h1, _⟩ := grp_suffix l d b f r s hm
      exact ⟨c :: u, by rw [h1]; rfl, by simp⟩
    rw [grp_n] at h
    split at h
    · exact g _ _ h
    · split at h
      · exact g _ _ h
      · split at h
        · split at h
          · simp at h
            exact ⟨[c], by rw [← h.1]; rfl, by simp⟩
          · exact g _ _ h
        · exact g _ _ h

/-- No quote among them: the search for one. -/
theorem index_none (l : List UInt8) (c : UInt8) (h : Lib.indexByte l c = -1) : ∀ x ∈ l, (x == c) = false := by
  induction l with
  | nil => intro x hx; cases hx
  | cons a l ih =>
    unfold Lib.indexByte at h
    split at h
    · exact absurd h (by decide)
    · rename_i ha
      split at h
      · rename_i hn
        intro x hx
        rcases List.mem_cons.1 hx with rfl | hx
        · simpa using ha
        · exact ih (by simpa using hn) x hx
      · have := Lib.indexByte_ge l c
        omega
theorem index_some (l : List UInt8) (c : UInt8) (n : Int) (h : Lib.indexByte l c = n) (hn : n ≠ -1) : ∃ k : Nat, n = k ∧ k < l.length ∧ l.drop k = c :: l.drop (k + 1) ∧ ∀ x ∈ l.take k, (x == c) = false := by
  induction l generalizing n with
  | nil => simp [Lib.indexByte] at h; omega
  | cons a l ih =>
    unfold Lib.indexByte at h
    split at h
    · rename_i ha
      have : a = c := by simpa using ha
      subst this
      exact ⟨0, by omega, by simp, by simp, by simp⟩
    · rename_i ha
      split at h
      · omega
      · rename_i hn1
        obtain ⟨k, h1, h2, h3, h4⟩ := ih (Lib.indexByte l c) rfl (by simpa using hn1)
        refine ⟨k + 1, by omega, by simp; omega, by simpa using h3, fun x hx => ?_⟩
        rw [List.take_succ_cons] at hx
        rcases List.mem_cons.1 hx with rfl | hx
        · simpa using ha
        · exact h4 x hx
end Go.Proofs.Qxb6606444a.Plain
