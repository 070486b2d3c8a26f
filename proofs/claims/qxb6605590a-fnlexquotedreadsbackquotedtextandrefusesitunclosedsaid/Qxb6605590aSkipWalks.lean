/-
  THE WALKS of skipSpaceAndComments and what it calls.
-/
import Derived.Test.Qxb6605590aRows
import Derived.Test.Qxb6605590aShelf
import Derived.Test.Qxb6605590aSkipPlain
import Derived.WalkKit
import Derived.WalkSpells
import Derived.WalkLawsBesides
namespace Go.Proofs.Qxb6605590a
open Go.RowKit Plain

theorem eqb (b : UInt8) (n : Nat) (h : n < 256) : ((b.toNat : Int) == (n : Int)) = (b == n.toUInt8) := by
  rw [Bool.eq_iff_iff, beq_iff_eq, beq_iff_eq, ← UInt8.toNat_inj]
  have : n.toUInt8.toNat = n := by simp [Nat.toUInt8, UInt8.toNat_ofNat']; omega
  rw [this]; omega

theorem sBlank_eq (b : UInt8) : sBlank b = ((b.toNat : Int) == 32 || (b.toNat : Int) == 9 || (b.toNat : Int) == 10 || (b.toNat : Int) == 13 || (b.toNat : Int) == 12 || (b.toNat : Int) == 11) := by
  have h32 := eqb b 32 (by omega)
  have h9 := eqb b 9 (by omega)
  have h10 := eqb b 10 (by omega)
  have h13 := eqb b 13 (by omega)
  have h12 := eqb b 12 (by omega)
  have h11 := eqb b 11 (by omega)
  unfold sBlank
  exact (by rw [show ((32 : Int)) = ((32 : Nat) : Int) from rfl, show ((9 : Int)) = ((9 : Nat) : Int) from rfl, show ((10 : Int)) = ((10 : Nat) : Int) from rfl, show ((13 : Int)) = ((13 : Nat) : Int) from rfl, show ((12 : Int)) = ((12 : Nat) : Int) from rfl, show ((11 : Int)) = ((11 : Nat) : Int) from rfl, h32, h9, h10, h13, h12, h11]; rfl)

set_option maxHeartbeats 400000 in
theorem isSpace_any (b : UInt8) (w : World) :
    Calls Try.prog 26 #[.int .u8 b.toNat] w fun e w' => e = .returned (.bool (sBlank b)) ∧ w' = w := by
  rw [sBlank_eq]
  generalize (b.toNat : Int) = n
  go_enter Try.func26, Try.ntmps26
  go_wp2
  all_goals (go_ret; refine ⟨?_, rfl⟩; simp [*])

theorem drop_to_end (q : ByteArray) (k : Nat) : (q.extract k q.size).data.toList = q.data.toList.drop k := by
  rw [Lib.extract_data, List.take_of_length_le]
  rw [List.length_drop, ← Lib.size_eq]
  omega

theorem hp_any (q : ByteArray) (k : Nat) (x y : UInt8) (w : World) :
    Calls Try.prog 27 #[.string (q.extract k q.size), .string ⟨#[x, y]⟩] w fun e w' => e = .returned (.bool (sAt2 (q.data.toList.drop k) x y)) ∧ w' = w := by
  have h := Try.strings_HasPrefix (q.extract k q.size) ⟨#[x, y]⟩ w
  rw [drop_to_end] at h
  exact h

theorem ib_any (q : ByteArray) (k : Nat) (c : UInt8) (w : World) :
    Calls Try.prog 28 #[.string (q.extract k q.size), .int .u8 c.toNat] w fun e w' => e = .returned (.int .i64 (Lib.indexByte (q.data.toList.drop k) c)) ∧ w' = w := by
  have h := Try.strings_IndexByte (q.extract k q.size) c.toNat w
  rw [drop_to_end] at h
  have e : ((c.toNat : Int)).toNat.toUInt8 = c := by simp
  rw [e] at h
  exact h

/-- The text from place k on, in mode m, scans to R. -/
def sIs (q : ByteArray) (k m : Nat) (R : Option (List UInt8)) : Prop := sScan (q.data.toList.drop k) m = R

theorem drop_cons (q : ByteArray) (k : Nat) (h : k < q.size) : q.data.toList.drop k = q[k] :: q.data.toList.drop (k + 1) := by
  rw [List.drop_eq_getElem_cons (by rw [← Lib.size_eq]; exact h)]
  rfl
theorem sIs_blank {q : ByteArray} {k : Nat} {R} (h : sIs q k 0 R) (hk : k < q.size) (hb : sBlank q[k] = true) : sIs q (k + 1) 0 R := by
  unfold sIs at *
  rw [drop_cons q k hk, sScan_blank _ _ hb] at h
  exact h

theorem ib_lf (q : ByteArray) (k : Nat) (w : World) :
    Calls Try.prog 28 #[.string (q.extract k q.size), .int .u8 10] w fun e w' => e = .returned (.int .i64 (Lib.indexByte (q.data.toList.drop k) 10)) ∧ w' = w :=
  ib_any q k 10 w
theorem ret_int {k : IntKind} {a b : Int} (h : a = b) : Ending.returned (.int k a) = .returned (.int k b) := by rw [h]
theorem sIs_tok {q : ByteArray} {k0 k : Nat} {R} (hR : sIs q k0 0 R) (hS : sIs q k 0 R) (hk : k ≤ q.size) (ht : sTok (q.data.toList.drop k) = true) : (k : Int) = sAns q.data.toList k0 := by
  unfold sIs at *
  unfold sAns
  rw [hR, ← hS, sScan_tok _ ht]
  simp only
  rw [List.length_drop, ← Lib.size_eq]
  omega
theorem sIs_end {q : ByteArray} {k0 k : Nat} {R} (hR : sIs q k0 0 R) (hS : sIs q k 0 R) (hk : k ≤ q.size) (hn : ¬ k < q.size) : (k : Int) = sAns q.data.toList k0 := by
  refine sIs_tok hR hS hk ?_
  rw [List.drop_of_length_le (by rw [← Lib.size_eq]; omega)]
  rfl
theorem sIs_none {q : ByteArray} {k0 k d : Nat} {R} (hR : sIs q k0 0 R) (hS : sIs q k (d + 2) R) (hn : ¬ k < q.size) : (-1 : Int) = sAns q.data.toList k0 := by
  unfold sIs at *
  rw [List.drop_of_length_le (by rw [← Lib.size_eq]; omega), sScan_nil_in] at hS
  unfold sAns
  rw [hR, ← hS]
theorem sIs_line {q : ByteArray} {k0 k : Nat} {R} (hR : sIs q k0 0 R) (hS : sIs q k 0 R) (ha : sAt2 (q.data.toList.drop k) 45 45 = true) :
    (Lib.indexByte (q.data.toList.drop k) 10 = -1 ∧ (q.size : Int) = sAns q.data.toList k0) ∨ (∃ n : Nat, Lib.indexByte (q.data.toList.drop k) 10 = n ∧ k + n < q.size ∧ sIs q (k + (n + 1)) 0 R) := by
  unfold sIs at *
  rw [sScan_line _ ha] at hS
  rcases sScan_one (q.data.toList.drop k) with ⟨h1, h2⟩ | ⟨n, h1, h2, h3⟩
  · left
    refine ⟨h1, ?_⟩
    unfold sAns
    rw [hR, ← hS, h2, ← Lib.size_eq]
    simp
  · right
    rw [List.length_drop, ← Lib.size_eq] at h2
    refine ⟨n, h1, by omega, ?_⟩
    rw [h3, List.drop_drop] at hS
    exact hS
theorem sIs_open {q : ByteArray} {k : Nat} {R} (hS : sIs q k 0 R) (ha : sAt2 (q.data.toList.drop k) 47 42 = true) : sIs q k 2 R := by
  unfold sIs at *
  rw [← sScan_open _ ha]; exact hS
theorem sAt2_fits {q : ByteArray} {k : Nat} {x y : UInt8} (ha : sAt2 (q.data.toList.drop k) x y = true) : k + 2 ≤ q.size := by
  obtain ⟨t, ht⟩ := (sAt2_iff ..).1 ha
  have := congrArg List.length ht
  rw [List.length_drop, ← Lib.size_eq] at this
  simp at this
  omega
theorem sIs_deeper {q : ByteArray} {k d : Nat} {R} (hS : sIs q k (d + 2) R) (ha : sAt2 (q.data.toList.drop k) 47 42 = true) : sIs q (k + 2) (d + 1 + 2) R := by
  unfold sIs at *
  rw [sScan_in_open _ _ ha, List.drop_drop] at hS; exact hS
theorem sIs_out {q : ByteArray} {k d : Nat} {R} (hS : sIs q k (d + 1 + 2) R) (hd : d = 0) (ha : sAt2 (q.data.toList.drop k) 42 47 = true) : sIs q (k + 2) 0 R := by
  unfold sIs at *
  subst hd
  rw [sScan_in_close _ _ ha, List.drop_drop] at hS; exact hS
theorem sIs_shallower {q : ByteArray} {k d : Nat} {R} (hS : sIs q k (d + 1 + 2) R) (hd : 0 < d) (ha : sAt2 (q.data.toList.drop k) 42 47 = true) : sIs q (k + 2) (d + 2) R := by
  unfold sIs at *
  have hd' : (d + 1 == 1) = false := by simp; omega
  rw [sScan_in_close _ _ ha, List.drop_drop, hd'] at hS; exact hS
theorem sIs_byte {q : ByteArray} {k d : Nat} {R} (hS : sIs q k (d + 2) R) (h1 : sAt2 (q.data.toList.drop k) 47 42 = false) (h2 : sAt2 (q.data.toList.drop k) 42 47 = false) : sIs q (k + 1) (d + 2) R := by
  unfold sIs at *
  rw [sScan_in_byte _ _ h1 h2, List.drop_drop] at hS; exact hS
theorem sTok_of {q : ByteArray} {k : Nat} (hk : k < q.size) (hb : sBlank q[k] = false) (h1 : sAt2 (q.data.toList.drop k) 45 45 = false) (h2 : sAt2 (q.data.toList.drop k) 47 42 = false) : sTok (q.data.toList.drop k) = true := by
  rw [drop_cons q k hk] at *
  simp only [sTok, hb, h1, h2]; rfl

set_option maxHeartbeats 1000000 in
theorem skip_any (q : ByteArray) (k0 : Nat) (w : World) (hq : q.size ≤ 2 ^ 40) (hk0 : k0 ≤ q.size) :
    Calls Try.prog 24 #[.string q, .int .i64 k0] w fun e w' => e = .returned (.int .i64 (sAns q.data.toList k0)) ∧ w' = w := by
  obtain ⟨R, hR⟩ : ∃ R, sIs q k0 0 R := ⟨_, rfl⟩
  go_enter Try.func24, Try.ntmps24
  go_wp2
  go_loop [1] (fun t => ∃ k : Nat, k ≤ q.size ∧ t = .int .i64 k ∧ sIs q k 0 R) (fun t => q.size - (intOf t).toNat)
  case atStart => exact ⟨k0, hk0, rfl, hR⟩
  case round =>
    obtain ⟨k, hk, rfl, hS⟩ := hrel
    by_cases hlt : k < q.size
    · by_cases hb : sBlank q[k] = true
      · go_wp2_with (first | (go_at_call 26; refine (isSpace_any _ _).mono ?_; rintro e w' ⟨rfl, rfl⟩))
        go_round
        case rel => exact ⟨k + 1, by omega, by go_num, sIs_blank hS hlt hb⟩
        case measure => simp [intOf]; omega
      · have hb' : sBlank q[k] = false := by simpa using hb
        clear hb
        by_cases ha : sAt2 (q.data.toList.drop k) 45 45 = true
        · rcases sIs_line hR hS ha with ⟨h1, h2⟩ | ⟨n, h1, h2, h3⟩
          · have H2 : Hid ((q.size : Int) = sAns q.data.toList k0) := h2
            clear h2
            go_wp2_with (first | (go_at_call 26; refine (isSpace_any _ _).mono ?_; rintro e w' ⟨rfl, rfl⟩) | (go_at_call 27; refine (hp_any q k _ _ _).mono ?_; rintro e w' ⟨rfl, rfl⟩) | (go_at_call 28; refine (ib_lf q k _).mono ?_; rintro e w' ⟨rfl, rfl⟩))
            go_ret
            exact ⟨ret_int H2.out, rfl⟩
          · go_wp2_with (first | (go_at_call 26; refine (isSpace_any _ _).mono ?_; rintro e w' ⟨rfl, rfl⟩) | (go_at_call 27; refine (hp_any q k _ _ _).mono ?_; rintro e w' ⟨rfl, rfl⟩) | (go_at_call 28; refine (ib_lf q k _).mono ?_; rintro e w' ⟨rfl, rfl⟩))
            go_round
            case rel => exact ⟨k + (n + 1), by omega, by go_num, h3⟩
            case measure => simp [intOf]; omega
        · have ha' : sAt2 (q.data.toList.drop k) 45 45 = false := by simpa using ha
          clear ha
          by_cases hc : sAt2 (q.data.toList.drop k) 47 42 = true
          · go_wp2_with (first | (go_at_call 26; refine (isSpace_any _ _).mono ?_; rintro e w' ⟨rfl, rfl⟩) | (go_at_call 27; refine (hp_any q k _ _ _).mono ?_; rintro e w' ⟨rfl, rfl⟩))
            clear hb' ha'
            go_loop [1, 6] (fun t dd => ∃ j d : Nat, k ≤ j ∧ d ≤ j ∧ j ≤ q.size ∧ t = .int .i64 j ∧ dd = .int .i64 d ∧ sIs q j (d + 2) R ∧ (1 ≤ d ∧ k < j ∨ sAt2 (q.data.toList.drop j) 47 42 = true)) (fun t _ => q.size - (intOf t).toNat)
            case atStart => exact ⟨k, 0, by omega, by omega, hk, rfl, rfl, sIs_open hS hc, .inr hc⟩
            case round =>
              clear hc
              obtain ⟨j, d, hkj, hdj, hj, rfl, rfl, hT, hd⟩ := hrel
              by_cases hjl : j < q.size
              · by_cases ho : sAt2 (q.data.toList.drop j) 47 42 = true
                · have hf := sAt2_fits ho
                  clear hd
                  go_wp2_with (first | (go_at_call 27; refine (hp_any q j _ _ _).mono ?_; rintro e w' ⟨rfl, rfl⟩))
                  go_round
                  case rel => exact ⟨j + 2, d + 1, by omega, by omega, by omega, by go_num, by go_num, sIs_deeper hT ho, .inl ⟨by omega, by omega⟩⟩
                  case measure => simp [intOf]; omega
                · have ho' : sAt2 (q.data.toList.drop j) 47 42 = false := by simpa using ho
                  have hd1 : 1 ≤ d ∧ k < j := by rcases hd with h | h; exact h; exact absurd h ho
                  clear ho hd
                  obtain ⟨hd1, hkj'⟩ := hd1
                  obtain ⟨d, rfl⟩ : ∃ d', d = d' + 1 := ⟨d - 1, by omega⟩
                  by_cases hx : sAt2 (q.data.toList.drop j) 42 47 = true
                  · have hf := sAt2_fits hx
                    by_cases hz : 0 < d
                    · have hz' : ((d : Int) == 0) = false := by rw [beq_eq_false_iff_ne]; omega
                      go_wp2_with (first | (go_at_call 27; refine (hp_any q j _ _ _).mono ?_; rintro e w' ⟨rfl, rfl⟩))
                      go_round
                      case rel => exact ⟨j + 2, d, by omega, by omega, by omega, by go_num, by go_num, sIs_shallower hT hz hx, .inl ⟨by omega, by omega⟩⟩
                      case measure => simp [intOf]; omega
                    · have hz' : ((d : Int) == 0) = true := by rw [beq_iff_eq]; omega
                      have hO := sIs_out hT (by omega) hx
                      go_wp2_with (first | (go_at_call 27; refine (hp_any q j _ _ _).mono ?_; rintro e w' ⟨rfl, rfl⟩))
                      go_round
                      case rel => exact ⟨j + 2, by omega, by go_num, hO⟩
                      case measure => simp [intOf]; omega
                  · have hx' : sAt2 (q.data.toList.drop j) 42 47 = false := by simpa using hx
                    clear hx
                    go_wp2_with (first | (go_at_call 27; refine (hp_any q j _ _ _).mono ?_; rintro e w' ⟨rfl, rfl⟩))
                    go_round
                    case rel => exact ⟨j + 1, d + 1, by omega, by omega, by omega, by go_num, by go_num, sIs_byte hT ho' hx', .inl ⟨by omega, by omega⟩⟩
                    case measure => simp [intOf]; omega
              · have H2 : Hid ((-1 : Int) = sAns q.data.toList k0) := sIs_none hR hT hjl
                clear hd
                go_wp2_with fail
                go_ret
                exact ⟨ret_int H2.out, rfl⟩
          · have hc' : sAt2 (q.data.toList.drop k) 47 42 = false := by simpa using hc
            clear hc
            have H2 : Hid ((k : Int) = sAns q.data.toList k0) := sIs_tok hR hS hk (sTok_of hlt hb' ha' hc')
            go_wp2_with (first | (go_at_call 26; refine (isSpace_any _ _).mono ?_; rintro e w' ⟨rfl, rfl⟩) | (go_at_call 27; refine (hp_any q k _ _ _).mono ?_; rintro e w' ⟨rfl, rfl⟩))
            go_ret
            exact ⟨ret_int H2.out, rfl⟩
    · have H2 : Hid ((k : Int) = sAns q.data.toList k0) := sIs_end hR hS hk hlt
      go_wp2
      go_ret
      exact ⟨ret_int H2.out, rfl⟩
end Go.Proofs.Qxb6605590a
