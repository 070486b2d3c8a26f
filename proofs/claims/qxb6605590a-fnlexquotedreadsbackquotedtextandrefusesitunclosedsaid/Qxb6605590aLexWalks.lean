/-
  THE WALK of lexQuoted.
-/
import Derived.Test.Qxb6605590aSkipWalks
import Derived.Test.Qxb6605590aBuilder
import Derived.Test.Qxb6605590aLexPlain
namespace Go.Proofs.Qxb6605590a
open Go.RowKit Plain

/-- The text from place k on, acc read before it, reads to R. -/
def lIs (q : ByteArray) (k : Nat) (c : UInt8) (acc : List UInt8) (R : Option (List UInt8 × List UInt8)) : Prop := lexA (q.data.toList.drop k) c acc = R

theorem lIs_run {q : ByteArray} {k : Nat} {c : UInt8} {acc : List UInt8} {R} (h : lIs q k c acc R) (hk : k ≤ q.size) :
    (Lib.indexByte (q.data.toList.drop k) c = -1 ∧ R = none) ∨
    (∃ n : Nat, Lib.indexByte (q.data.toList.drop k) c = n ∧ k + n < q.size ∧ q.data.toList.drop (k + n) = c :: q.data.toList.drop (k + n + 1) ∧ lIs q (k + n) c (acc ++ (q.extract k (k + n)).data.toList) R) := by
  unfold lIs at *
  rcases lexA_run (q.data.toList.drop k) c acc with ⟨h1, h2⟩ | ⟨n, h1, h2, h3, h4⟩
  · exact .inl ⟨h1, by rw [← h, h2]⟩
  · right
    rw [List.length_drop, ← Lib.size_eq] at h2
    refine ⟨n, h1, by omega, ?_, ?_⟩
    · rw [List.drop_drop, List.drop_drop] at h3
      rw [h3]; rfl
    · rw [← h, h4, List.drop_drop, Lib.extract_data, Nat.add_sub_cancel_left]

theorem lIs_two {q : ByteArray} {k : Nat} {c : UInt8} {acc : List UInt8} {R} (h : lIs q k c acc R) (hc : q.data.toList.drop k = c :: q.data.toList.drop (k + 1)) (hk : k + 1 < q.size) (h1 : ((q[k + 1].toNat : Int) == (c.toNat : Int)) = true) : lIs q (k + 2) c (acc ++ [c]) R := by
  unfold lIs at *
  have e : q[k + 1] = c := by
    rw [← UInt8.toNat_inj]
    have h2 := of_decide_eq_true h1
    omega
  rw [hc, drop_cons q (k + 1) hk, e, lexA_two] at h
  exact h

theorem lIs_end {q : ByteArray} {k : Nat} {c : UInt8} {acc : List UInt8} {R} (h : lIs q k c acc R) (hc : q.data.toList.drop k = c :: q.data.toList.drop (k + 1)) (h1 : ∀ hk : k + 1 < q.size, ((q[k + 1].toNat : Int) == (c.toNat : Int)) = false) : R = some (acc, q.data.toList.drop (k + 1)) := by
  unfold lIs at *
  rw [hc, lexA_end] at h
  · exact h.symm
  · by_cases hk : k + 1 < q.size
    · rw [drop_cons q (k + 1) hk]
      have := h1 hk
      simp only [List.head?_cons, ne_eq, Option.some.injEq]
      intro e
      rw [e] at this
      simp at this
    · rw [List.drop_of_length_le (by rw [← Lib.size_eq]; omega)]
      simp

theorem lex_none {q : ByteArray} {k0 : Nat} {c : UInt8} {R} (h : lIs q (k0 + 1) c [] R) (hR : R = none) : lexText q.data.toList k0 c = [] ∧ lexEnd q.data.toList k0 c = 0 ∧ lexOk q.data.toList k0 c = false := by
  unfold lIs at h
  unfold lexText lexEnd lexOk
  rw [h, hR]
  exact ⟨rfl, rfl, rfl⟩

theorem lex_some {q : ByteArray} {k0 k : Nat} {c : UInt8} {acc : List UInt8} {R} (h : lIs q (k0 + 1) c [] R) (hk : k < q.size) (hR : R = some (acc, q.data.toList.drop (k + 1))) : lexText q.data.toList k0 c = acc ∧ lexEnd q.data.toList k0 c = (k : Int) + 1 ∧ lexOk q.data.toList k0 c = true := by
  unfold lIs at h
  unfold lexText lexEnd lexOk
  rw [h, hR]
  refine ⟨rfl, ?_, rfl⟩
  simp only
  rw [List.length_drop, ← Lib.size_eq]
  omega

theorem ret_lex {t t' : List UInt8} {n n' : Int} {o o' : Bool} (h : t' = t ∧ n' = n ∧ o' = o) : Ending.returned (.tuple #[.string ⟨t.toArray⟩, .int .i64 n, .bool o]) = .returned (.tuple #[.string ⟨t'.toArray⟩, .int .i64 n', .bool o']) := by
  obtain ⟨rfl, rfl, rfl⟩ := h; rfl

theorem hid {p : Prop} (h : p) : Hid p := h

set_option maxHeartbeats 1000000 in
theorem lexQuoted_any (q : ByteArray) (k0 : Nat) (c : UInt8) (w : World) (hq : q.size ≤ 2 ^ 40) (hk0 : k0 + 1 ≤ q.size) :
    Calls Try.prog 25 #[.string q, .int .i64 k0, .int .u8 c.toNat] w fun e w' => e = .returned (.tuple #[.string ⟨(lexText q.data.toList k0 c).toArray⟩, .int .i64 (lexEnd q.data.toList k0 c), .bool (lexOk q.data.toList k0 c)]) ∧ Below w.heap.size w w' := by
  obtain ⟨R, hR⟩ : ∃ R, lIs q (k0 + 1) c [] R := ⟨_, rfl⟩
  go_enter Try.func25, Try.ntmps25
  go_wp2
  go_loopw [10] (fun t wr => ∃ (k : Nat) (acc : List UInt8), k ≤ q.size ∧ t = .int .i64 k ∧ Lib.IsBuilder 39 5 w.heap.size w.heap.size (Lib.byteCells acc) wr ∧ Below w.heap.size w wr ∧ lIs q k c acc R ∧ acc.length ≤ k) (fun t _ => q.size - (intOf t).toNat)
  case atStart => exact ⟨k0 + 1, [], hk0, by go_num, Lib.fresh_isBuilder 39 5 w, (Below.refl _ w).alloc (Nat.le_refl _) _, hR, by simp⟩
  case round =>
    obtain ⟨k, acc, hk, rfl, hI, hbw, hS, hal⟩ := hrel
    have hsz := hbw.size
    rcases lIs_run hS hk with ⟨h1, h2⟩ | ⟨n, h1, h2, h3, h4⟩
    · have HF := hid (lex_none hR h2)
      clear h2 hI
      go_wp2_with (first | (go_at_call 28; refine (ib_any q k c _).mono ?_; rintro e w' ⟨rfl, rfl⟩))
      go_ret3
      exact ⟨ret_lex HF.out, hbw⟩
    · have H3 := hid h3
      clear h3
      have hes : (q.extract k (k + n)).size = n := by simp; omega
      have hal2 : (acc ++ (q.extract k (k + n)).data.toList).length ≤ k + n := by rw [List.length_append, ← Lib.size_eq, hes]; omega
      by_cases hlt : k + n + 1 < q.size
      · by_cases ht : ((q[k + n + 1].toNat : Int) == (c.toNat : Int)) = true
        · have h5 := lIs_two h4 H3.out hlt ht
          clear h4
          go_wp2_with (first | (go_at_call 28; refine (ib_any q k c _).mono ?_; rintro e w' ⟨rfl, rfl⟩))
          refine (writeString_any w.heap.size w.heap.size (Lib.byteCells acc) (q.extract k (k + n)) _ hI (by rw [Lib.byteCells_length, hes]; omega) hsz).mono ?_
          rintro e W1 ⟨rfl, hI1, hb1⟩
          rw [Lib.strCells_eq, ← Lib.byteCells_append] at hI1
          clear hI
          have hsz1 := hb1.size
          go_wp2_with fail
          refine (writeByte_any w.heap.size w.heap.size _ _ _ (.inr hI1) (by rw [Lib.byteCells_length]; omega) (by omega)).mono ?_
          rintro e W2 ⟨rfl, hI2, hb2⟩
          have hI3 : Lib.IsBuilder 39 5 w.heap.size w.heap.size (Lib.byteCells (acc ++ (q.extract k (k + n)).data.toList ++ [c])) W2 := by
            rw [Lib.byteCells_append _ [c]]
            exact .inr hI2
          clear hI1 hI2
          go_wp2_with fail
          go_roundw
          case rel => exact ⟨k + n + 2, _, by omega, by go_num, hI3, (hbw.trans hb1).trans hb2, h5, by rw [List.length_append]; simp only [List.length_cons, List.length_nil]; omega⟩
          case measure => simp [intOf]; omega
        · have ht' : ((q[k + n + 1].toNat : Int) == (c.toNat : Int)) = false := by simpa using ht
          have HF := hid (lex_some hR h2 (lIs_end h4 H3.out fun _ => ht'))
          clear h4 ht
          go_wp2_with (first | (go_at_call 28; refine (ib_any q k c _).mono ?_; rintro e w' ⟨rfl, rfl⟩))
          refine (writeString_any w.heap.size w.heap.size (Lib.byteCells acc) (q.extract k (k + n)) _ hI (by rw [Lib.byteCells_length, hes]; omega) hsz).mono ?_
          rintro e W1 ⟨rfl, hI1, hb1⟩
          rw [Lib.strCells_eq, ← Lib.byteCells_append] at hI1
          clear hI
          have hsz1 := hb1.size
          go_wp2_with fail
          refine (Try.Builder_String_any w.heap.size w.heap.size _ _ (.inr hI1) (by omega)).mono ?_
          rintro e W2 ⟨rfl, hb2⟩
          clear hI1
          go_wp2_with fail
          go_ret3
          exact ⟨ret_lex (by have hf := HF.out; rw [Lib.extract_data, Nat.add_sub_cancel_left, Int.natCast_add] at hf; exact hf), (hbw.trans hb1).trans hb2⟩
      · have HF := hid (lex_some hR h2 (lIs_end h4 H3.out fun h => absurd h hlt))
        clear h4
        go_wp2_with (first | (go_at_call 28; refine (ib_any q k c _).mono ?_; rintro e w' ⟨rfl, rfl⟩))
        refine (writeString_any w.heap.size w.heap.size (Lib.byteCells acc) (q.extract k (k + n)) _ hI (by rw [Lib.byteCells_length, hes]; omega) hsz).mono ?_
        rintro e W1 ⟨rfl, hI1, hb1⟩
        rw [Lib.strCells_eq, ← Lib.byteCells_append] at hI1
        clear hI
        have hsz1 := hb1.size
        go_wp2_with fail
        refine (Try.Builder_String_any w.heap.size w.heap.size _ _ (.inr hI1) (by omega)).mono ?_
        rintro e W2 ⟨rfl, hb2⟩
        clear hI1
        go_wp2_with fail
        go_ret3
        exact ⟨ret_lex (by have hf := HF.out; rw [Lib.extract_data, Nat.add_sub_cancel_left, Int.natCast_add] at hf; exact hf), (hbw.trans hb1).trans hb2⟩

set_option maxHeartbeats 400000 in
theorem zzlexQuoted_any (q : ByteArray) (n : Int) (k0 : Nat) (m : Int) (c : UInt8) (w : World) (hn : n = k0) (hm : m = c.toNat) (hq : q.size ≤ 2 ^ 40) (hk0 : k0 + 1 ≤ q.size) :
    Calls Try.prog 14 #[.string q, .int .i64 n, .int .u8 m] w fun e w' => e = .returned (.tuple #[.string ⟨(lexText q.data.toList k0 c).toArray⟩, .int .i64 (lexEnd q.data.toList k0 c), .bool (lexOk q.data.toList k0 c)]) ∧ Below w.heap.size w w' := by
  subst hn hm
  go_enter Try.func14, Try.ntmps14
  go_wp2_with fail
  refine (lexQuoted_any q k0 c _ hq hk0).mono ?_
  rintro e W1 ⟨rfl, hb⟩
  go_wp2
  go_ret3
  exact ⟨rfl, hb⟩
end Go.Proofs.Qxb6605590a
