/-
  THE WALKS of zzSqlLexModel (the byte-at-a-time scanner) and zzSqlQuote.
-/
import Derived.Test.Qxb6605590aLexWalks
namespace Go.Proofs.Qxb6605590a
open Go.RowKit Plain

theorem own_string {w : World} {B : Nat} {v : Value} {l : List UInt8} (h : w.ownsRow B 5 1 v l.length (Lib.byteCells l)) : (convert 35 9 v).run Try.prog w = .ok (.string ⟨l.toArray⟩) w := by
  rcases h.2 with ⟨rfl, h0⟩ | ⟨g, cap, cur, rfl, _⟩
  · obtain rfl : l = [] := List.length_eq_zero_iff.1 h0
    rw [run_convert_bytes_string w 35 9 5 none 0 0 Try.underlying35 Try.underlying5 Try.underlying9]
    simp [Conv.bytesToString]
    rfl
  · refine run_convert_bytes_back w 35 9 5 ⟨g, 0, none⟩ cap l Try.underlying35 Try.underlying5 Try.underlying9 fun j hj => ?_
    exact h.cells rfl j _ (by simp [Lib.byteCells, hj])

theorem lIs_over {q : ByteArray} {k : Nat} {c : UInt8} {acc : List UInt8} {R} (h : lIs q k c acc R) (hk : ¬ k < q.size) : R = none := by
  unfold lIs at h
  rw [List.drop_of_length_le (by rw [← Lib.size_eq]; omega)] at h
  exact h.symm
theorem lIs_byte {q : ByteArray} {k : Nat} {c : UInt8} {acc : List UInt8} {R} (h : lIs q k c acc R) (hk : k < q.size) (ht : ((q[k].toNat : Int) == (c.toNat : Int)) = false) : lIs q (k + 1) c (acc ++ [q[k]]) R := by
  unfold lIs at *
  rw [drop_cons q k hk, lexA_byte] at h
  · exact h
  · rw [beq_eq_false_iff_ne] at *
    intro e
    exact ht (by rw [e])
theorem drop_quote {q : ByteArray} {k : Nat} {c : UInt8} (hk : k < q.size) (ht : ((q[k].toNat : Int) == (c.toNat : Int)) = true) : q.data.toList.drop k = c :: q.data.toList.drop (k + 1) := by
  rw [drop_cons q k hk]
  have e : q[k] = c := by
    rw [← UInt8.toNat_inj]
    have h2 := of_decide_eq_true ht
    omega
  rw [e]

set_option maxHeartbeats 1000000 in
theorem lexModel_any (q : ByteArray) (n0 : Int) (k0 : Nat) (m0 : Int) (c : UInt8) (w : World) (hn : n0 = k0) (hm : m0 = c.toNat) (hq : q.size ≤ 2 ^ 40) (hk0 : k0 + 1 ≤ q.size) :
    Calls Try.prog 15 #[.string q, .int .i64 n0, .int .u8 m0] w fun e w' => e = .returned (.tuple #[.string ⟨(lexText q.data.toList k0 c).toArray⟩, .int .i64 (lexEnd q.data.toList k0 c), .bool (lexOk q.data.toList k0 c)]) ∧ Below w.heap.size w w' := by
  subst hn hm
  obtain ⟨R, hR⟩ : ∃ R, lIs q (k0 + 1) c [] R := ⟨_, rfl⟩
  obtain ⟨i0, hi, hz0, hz1, hz2⟩ := info_parts Try.Builder_Extra_169.infoByte
  go_enter Try.func15, Try.ntmps15
  go_wp2_with (at_make; refine wpList_make_own _ rfl _ _ 35 rfl w.heap.size 5 i0 (.int .u8 0) 1 Try.underlying35 hi hz0 hz1 _ _ _ q.size rfl rfl rfl ?b2 ?b3 (Nat.le_refl _) ?_)
  case b2 => rw [hz2]; omega
  case b3 => unfold maxLen; omega
  intro w0 hown0 hgrow0
  go_wp2
  go_loopw [9, 10] (fun v t wr => ∃ (k : Nat) (acc : List UInt8), k ≤ q.size ∧ t = .int .i64 k ∧ wr.ownsRow w.heap.size 5 1 v acc.length (Lib.byteCells acc) ∧ Below w.heap.size w wr ∧ lIs q k c acc R ∧ acc.length ≤ k) (fun _ t _ => q.size - (intOf t).toNat)
  case atStart => exact ⟨k0 + 1, [], hk0, by go_num, hown0, (Below.refl _ _).grown hgrow0 (Nat.le_refl _) (fun k h => by cases h), hR, by simp⟩
  case round =>
    obtain ⟨k, acc, hk, rfl, hown, hbw, hS, hal⟩ := hrel
    have hsz := hbw.size
    by_cases hlt : k < q.size
    · by_cases ht : ((q[k].toNat : Int) == (c.toNat : Int)) = true
      · by_cases hlt2 : k + 1 < q.size
        · by_cases ht2 : ((q[k + 1].toNat : Int) == (c.toNat : Int)) = true
          · have h5 := lIs_two hS (drop_quote hlt ht) hlt2 ht2
            clear hS
            go_wp2_with (at_builtin; refine wpList_append_own _ rfl _ _ 35 rfl w.heap.size 5 i0 (.int .u8 0) 1 1 Try.underlying35 hi hz0 hz1 hz2 rfl (by decide) _ _ _ rfl (hown.alloc _) ⟨wr.heap.size, 0, none⟩ 1 1 [.int .u8 c.toNat] rfl rfl ?c1 ?c2 ?c3 ?c4 ?c5 ?_)
            case c1 =>
              intro j u hj
              match j, hj with
              | 0, hj => simp at hj; subst hj; simp [Addr.add]
            case c2 => intro u hu; simp at hu; subst hu; rfl
            case c3 => unfold maxLen; omega
            case c4 => omega
            case c5 => simp; omega
            intro v' w2 hown' hgrow _
            have hown2 : w2.ownsRow w.heap.size 5 1 v' (acc ++ [c]).length (Lib.byteCells (acc ++ [c])) := by
              rw [Lib.byteCells_append, List.length_append]; exact hown'
            have hb2 : Below w.heap.size w w2 := (hbw.alloc hsz _).grown hgrow (by simp; omega) (fun k hk => (hown.lt k hk).1)
            clear hown' hown hgrow
            go_wp2_with fail
            go_roundw
            case rel => exact ⟨k + 2, _, by omega, by go_num, hown2, hb2, h5, by rw [List.length_append]; simp only [List.length_cons, List.length_nil]; omega⟩
            case measure => simp [intOf]; omega
          · have ht2' : ((q[k + 1].toNat : Int) == (c.toNat : Int)) = false := by simpa using ht2
            have HF := hid (lex_some hR hlt (lIs_end hS (drop_quote hlt ht) fun _ => ht2'))
            have hcv := own_string hown
            clear ht2 hS
            go_wp2_with fail
            go_ret3
            exact ⟨ret_lex HF.out, hbw⟩
        · have HF := hid (lex_some hR hlt (lIs_end hS (drop_quote hlt ht) fun h => absurd h hlt2))
          have hcv := own_string hown
          clear hS
          go_wp2_with fail
          go_ret3
          exact ⟨ret_lex HF.out, hbw⟩
      · have ht' : ((q[k].toNat : Int) == (c.toNat : Int)) = false := by simpa using ht
        have h5 := lIs_byte hS hlt ht'
        clear ht hS
        go_wp2_with (at_builtin; refine wpList_append_own _ rfl _ _ 35 rfl w.heap.size 5 i0 (.int .u8 0) 1 1 Try.underlying35 hi hz0 hz1 hz2 rfl (by decide) _ _ _ rfl (hown.alloc _) ⟨wr.heap.size, 0, none⟩ 1 1 [.int .u8 q[k].toNat] rfl rfl ?c1 ?c2 ?c3 ?c4 ?c5 ?_)
        case c1 =>
          intro j u hj
          match j, hj with
          | 0, hj => simp at hj; subst hj; simp [Addr.add]
        case c2 => intro u hu; simp at hu; subst hu; rfl
        case c3 => unfold maxLen; omega
        case c4 => omega
        case c5 => simp; omega
        intro v' w2 hown' hgrow _
        have hown2 : w2.ownsRow w.heap.size 5 1 v' (acc ++ [q[k]]).length (Lib.byteCells (acc ++ [q[k]])) := by
          rw [Lib.byteCells_append, List.length_append]; exact hown'
        have hb2 : Below w.heap.size w w2 := (hbw.alloc hsz _).grown hgrow (by simp; omega) (fun k hk => (hown.lt k hk).1)
        clear hown' hown hgrow
        go_wp2_with fail
        go_roundw
        case rel => exact ⟨k + 1, _, by omega, by go_num, hown2, hb2, h5, by rw [List.length_append]; simp only [List.length_cons, List.length_nil]; omega⟩
        case measure => simp [intOf]; omega
    · have HF := hid (lex_none hR (lIs_over hS hlt))
      clear hS hown
      go_wp2_with fail
      go_ret3
      exact ⟨ret_lex HF.out, hbw⟩
end Go.Proofs.Qxb6605590a
