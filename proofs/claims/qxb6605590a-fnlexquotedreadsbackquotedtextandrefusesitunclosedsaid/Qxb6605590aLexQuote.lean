/-
  THE WALK of zzSqlQuote, and lexQuoted over what it writes.
-/
import Derived.Test.Qxb6605590aLexModel
namespace Go.Proofs.Qxb6605590a
open Go.RowKit Plain

/-- The literal: an opening quote, the text with each quote doubled, a closing quote. -/
def isLit (lit s : ByteArray) (c : UInt8) : Prop := lit.data.toList = c :: dbl s.data.toList c ++ [c]

/-- What is written behind k bytes of the text. -/
def quoted (s : ByteArray) (c : UInt8) (k : Nat) : List UInt8 := c :: dbl (s.data.toList.take k) c
theorem quoted_length (s : ByteArray) (c : UInt8) (k : Nat) : (quoted s c k).length ≤ 2 * k + 1 := by
  have h := dbl_length (s.data.toList.take k) c
  have h2 : (s.data.toList.take k).length ≤ k := List.length_take_le _ _
  unfold quoted
  simp only [List.length_cons]
  omega
theorem quoted_byte (s : ByteArray) (c : UInt8) (k : Nat) (hk : k < s.size) (ht : ((s[k].toNat : Int) == (c.toNat : Int)) = false) : quoted s c (k + 1) = quoted s c k ++ [s[k]] := by
  have e : (s[k] == c) = false := by
    rw [beq_eq_false_iff_ne] at *
    intro e
    exact ht (by rw [e])
  unfold quoted
  rw [List.take_succ_eq_append_getElem (by rw [← Lib.size_eq]; exact hk)]
  have e2 : s.data.toList[k]'(by rw [← Lib.size_eq]; exact hk) = s[k] := rfl
  rw [e2, dbl_snoc, e]
  rfl
theorem quoted_quote (s : ByteArray) (c : UInt8) (k : Nat) (hk : k < s.size) (ht : ((s[k].toNat : Int) == (c.toNat : Int)) = true) : quoted s c (k + 1) = quoted s c k ++ [s[k]] ++ [c] := by
  have e : (s[k] == c) = true := by
    rw [beq_iff_eq, ← UInt8.toNat_inj]
    have h2 := of_decide_eq_true ht
    omega
  unfold quoted
  rw [List.take_succ_eq_append_getElem (by rw [← Lib.size_eq]; exact hk)]
  have e2 : s.data.toList[k]'(by rw [← Lib.size_eq]; exact hk) = s[k] := rfl
  rw [e2, dbl_snoc, e]
  simp

theorem byteCells_snoc (l : List UInt8) (b : UInt8) : Lib.byteCells (l ++ [b]) = Lib.byteCells l ++ [.int .u8 b.toNat] := by
  rw [Lib.byteCells_append]; rfl

set_option maxHeartbeats 2000000 in
theorem quote_any (s : ByteArray) (m0 : Int) (c : UInt8) (w : World) (hm : m0 = c.toNat) (hs : s.size ≤ 65536) :
    Calls Try.prog 17 #[.string s, .int .u8 m0] w fun e w' => ∃ lit : ByteArray, e = .returned (.string lit) ∧ isLit lit s c ∧ Below w.heap.size w w' := by
  subst hm
  obtain ⟨i0, hi, hz0, hz1, hz2⟩ := info_parts Try.Builder_Extra_169.infoByte
  go_enter Try.func17, Try.ntmps17
  go_wp2_with (at_make; refine wpList_make_own _ rfl _ _ 35 rfl w.heap.size 5 i0 (.int .u8 0) 1 Try.underlying35 hi hz0 hz1 _ _ _ (2 * s.size + 2) rfl rfl ?b1 ?b2 ?b3 (Nat.le_refl _) ?_)
  case b1 => omega
  case b2 => rw [hz2]; omega
  case b3 => unfold maxLen; omega
  intro w0 hown0 hgrow0
  have hbw0 : Below w.heap.size w w0 := (Below.refl _ _).grown hgrow0 (Nat.le_refl _) (fun k h => by cases h)
  have hsz0 := hbw0.size
  clear hgrow0
  go_wp2_with (at_builtin; refine wpList_append_own _ rfl _ _ 35 rfl w.heap.size 5 i0 (.int .u8 0) 1 1 Try.underlying35 hi hz0 hz1 hz2 rfl (by decide) _ _ _ rfl (hown0.alloc _) ⟨w0.heap.size, 0, none⟩ 1 1 [.int .u8 c.toNat] rfl rfl ?c1 ?c2 ?c3 ?c4 ?c5 ?_)
  case c1 =>
    intro j u hj
    match j, hj with
    | 0, hj => simp at hj; subst hj; simp [Addr.add]
  case c2 => intro u hu; simp at hu; subst hu; rfl
  case c3 => unfold maxLen; omega
  case c4 => omega
  case c5 => simp; omega
  intro v1 w1 hown1 hgrow1 _
  have hbw1 : Below w.heap.size w w1 := (hbw0.alloc hsz0 _).grown hgrow1 (by simp; omega) (fun k hk => (hown0.lt k hk).1)
  have hown1' : w1.ownsRow w.heap.size 5 1 v1 (quoted s c 0).length (Lib.byteCells (quoted s c 0)) := hown1
  clear hown1 hown0 hgrow1 hbw0 hsz0
  go_wp2
  go_loopw [5, 6] (fun v t wr => ∃ (k : Nat), k ≤ s.size ∧ t = .int .i64 k ∧ wr.ownsRow w.heap.size 5 1 v (quoted s c k).length (Lib.byteCells (quoted s c k)) ∧ Below w.heap.size w wr) (fun _ t _ => s.size - (intOf t).toNat)
  case atStart => exact ⟨0, by omega, rfl, hown1', hbw1⟩
  case round =>
    clear hown1' hbw1
    obtain ⟨k, hk, rfl, hown, hbw⟩ := hrel
    have hsz := hbw.size
    have hql := quoted_length s c k
    by_cases hlt : k < s.size
    · by_cases ht : ((s[k].toNat : Int) == (c.toNat : Int)) = true
      · have hQ := hid (quoted_quote s c k hlt ht)
        go_wp2_with (at_builtin; refine wpList_append_own _ rfl (.tmp 22) (.tmp 26) 35 rfl w.heap.size 5 i0 (.int .u8 0) 1 1 Try.underlying35 hi hz0 hz1 hz2 rfl (by decide) _ _ _ rfl (hown.alloc _) ⟨wr.heap.size, 0, none⟩ 1 1 [.int .u8 s[k].toNat] rfl rfl ?c1 ?c2 ?c3 ?c4 ?c5 ?_)
        case c1 =>
          intro j u hj
          match j, hj with
          | 0, hj => simp at hj; subst hj; simp [Addr.add]
        case c2 => intro u hu; simp at hu; subst hu; rfl
        case c3 => unfold maxLen; omega
        case c4 => omega
        case c5 => simp; omega
        intro v2 w2 hown2 hgrow2 _
        have hb2 : Below w.heap.size w w2 := (hbw.alloc hsz _).grown hgrow2 (by simp; omega) (fun k hk => (hown.lt k hk).1)
        have hsz2 := hb2.size
        clear hown hgrow2
        go_wp2_with (at_builtin; refine wpList_append_own _ rfl (.tmp 33) (.tmp 35) 35 rfl w.heap.size 5 i0 (.int .u8 0) 1 1 Try.underlying35 hi hz0 hz1 hz2 rfl (by decide) _ _ _ rfl (hown2.alloc _) ⟨w2.heap.size, 0, none⟩ 1 1 [.int .u8 c.toNat] rfl rfl ?c1 ?c2 ?c3 ?c4 ?c5 ?_)
        case c1 =>
          intro j u hj
          match j, hj with
          | 0, hj => simp at hj; subst hj; simp [Addr.add]
        case c2 => intro u hu; simp at hu; subst hu; rfl
        case c3 => unfold maxLen; omega
        case c4 => omega
        case c5 => simp; omega
        intro v3 w3 hown3 hgrow3 _
        have hb3 : Below w.heap.size w w3 := (hb2.alloc hsz2 _).grown hgrow3 (by simp; omega) (fun k hk => (hown2.lt k hk).1)
        have hown4 : w3.ownsRow w.heap.size 5 1 v3 (quoted s c (k + 1)).length (Lib.byteCells (quoted s c (k + 1))) := by
          rw [hQ.out, byteCells_snoc, byteCells_snoc, List.length_append, List.length_append, List.append_assoc (Lib.byteCells _)]; exact hown3
        clear hown2 hown3 hgrow3
        go_wp2_with fail
        go_roundw
        case rel => exact ⟨k + 1, by omega, by go_num, hown4, hb3⟩
        case measure => simp [intOf]; omega
      · have ht' : ((s[k].toNat : Int) == (c.toNat : Int)) = false := by simpa using ht
        have hQ := hid (quoted_byte s c k hlt ht')
        clear ht
        go_wp2_with (at_builtin; refine wpList_append_own _ rfl (.tmp 22) (.tmp 26) 35 rfl w.heap.size 5 i0 (.int .u8 0) 1 1 Try.underlying35 hi hz0 hz1 hz2 rfl (by decide) _ _ _ rfl (hown.alloc _) ⟨wr.heap.size, 0, none⟩ 1 1 [.int .u8 s[k].toNat] rfl rfl ?c1 ?c2 ?c3 ?c4 ?c5 ?_)
        case c1 =>
          intro j u hj
          match j, hj with
          | 0, hj => simp at hj; subst hj; simp [Addr.add]
        case c2 => intro u hu; simp at hu; subst hu; rfl
        case c3 => unfold maxLen; omega
        case c4 => omega
        case c5 => simp; omega
        intro v2 w2 hown2 hgrow2 _
        have hb2 : Below w.heap.size w w2 := (hbw.alloc hsz _).grown hgrow2 (by simp; omega) (fun k hk => (hown.lt k hk).1)
        have hown4 : w2.ownsRow w.heap.size 5 1 v2 (quoted s c (k + 1)).length (Lib.byteCells (quoted s c (k + 1))) := by
          rw [hQ.out, byteCells_snoc, List.length_append]; exact hown2
        clear hown hown2 hgrow2
        go_wp2_with fail
        go_roundw
        case rel => exact ⟨k + 1, by omega, by go_num, hown4, hb2⟩
        case measure => simp [intOf]; omega
    · go_wp2_with (at_builtin; refine wpList_append_own _ rfl (.tmp 37) (.tmp 39) 35 rfl w.heap.size 5 i0 (.int .u8 0) 1 1 Try.underlying35 hi hz0 hz1 hz2 rfl (by decide) _ _ _ rfl (hown.alloc _) ⟨wr.heap.size, 0, none⟩ 1 1 [.int .u8 c.toNat] rfl rfl ?c1 ?c2 ?c3 ?c4 ?c5 ?_)
      case c1 =>
        intro j u hj
        match j, hj with
        | 0, hj => simp at hj; subst hj; simp [Addr.add]
      case c2 => intro u hu; simp at hu; subst hu; rfl
      case c3 => unfold maxLen; omega
      case c4 => omega
      case c5 => simp; omega
      intro v2 w2 hown2 hgrow2 _
      have hb2 : Below w.heap.size w w2 := (hbw.alloc hsz _).grown hgrow2 (by simp; omega) (fun k hk => (hown.lt k hk).1)
      have hown4 : w2.ownsRow w.heap.size 5 1 v2 (quoted s c k ++ [c]).length (Lib.byteCells (quoted s c k ++ [c])) := by
        rw [byteCells_snoc, List.length_append]; exact hown2
      have hcv := own_string hown4
      clear hown hown2 hgrow2 hown4
      go_wp2_with fail
      go_ret
      refine ⟨_, rfl, ?_, hb2⟩
      unfold isLit quoted
      rw [List.take_of_length_le (by rw [← Lib.size_eq]; omega)]

/-! ### lexQuoted over the literal -/
theorem lit_size {lit s : ByteArray} {c : UInt8} (h : isLit lit s c) (hs : s.size ≤ 65536) : 2 ≤ lit.size ∧ lit.size ≤ 131074 := by
  have h1 := congrArg List.length h
  have h2 := dbl_length s.data.toList c
  rw [← Lib.size_eq] at h1 h2
  simp only [List.length_append, List.length_cons, List.length_nil] at h1
  omega

theorem read_whole (p lit s rest : ByteArray) (n m : Int) (c : UInt8) (w : World) (hn : n = p.size) (hm : m = c.toNat) (hl : isLit lit s c) (hp : p.size ≤ 65536) (hs : s.size ≤ 65536) (hr : rest.size ≤ 65536)
    (hh : rest.data.toList.head? ≠ some c) :
    Calls Try.prog 14 #[.string (p ++ lit ++ rest), .int .i64 n, .int .u8 m] w fun e w' => e = .returned (.tuple #[.string s, .int .i64 (p.size + lit.size), .bool true]) ∧ Below w.heap.size w w' := by
  have hls := lit_size hl hs
  have e0 : (p ++ lit ++ rest).size = p.size + lit.size + rest.size := by simp [ByteArray.size_append]
  have h := zzlexQuoted_any (p ++ lit ++ rest) n p.size m c w hn hm (by omega) (by omega)
  have e1 : (p ++ lit ++ rest).data.toList = p.data.toList ++ (lit.data.toList ++ rest.data.toList) := by simp
  have e2 : lexA ((p ++ lit ++ rest).data.toList.drop (p.size + 1)) c [] = some (s.data.toList, rest.data.toList) := by
    rw [e1, ← List.drop_drop, List.drop_left' (Lib.size_eq p).symm, hl]
    simp only [List.cons_append, List.append_assoc, List.drop_succ_cons, List.drop_zero, List.nil_append]
    rw [lexA_dbl, List.nil_append, lexA_end _ _ _ hh]
  have t1 : lexText (p ++ lit ++ rest).data.toList p.size c = s.data.toList := by unfold lexText; rw [e2]
  have t2 : lexEnd (p ++ lit ++ rest).data.toList p.size c = p.size + lit.size := by
    unfold lexEnd; rw [e2]; simp only; rw [← Lib.size_eq, ← Lib.size_eq, e0]; omega
  have t3 : lexOk (p ++ lit ++ rest).data.toList p.size c = true := by unfold lexOk; rw [e2]; rfl
  rw [t1, t2, t3, Lib.mk_data] at h
  exact h

theorem read_open (p lit s : ByteArray) (n m : Int) (c : UInt8) (w : World) (hn : n = p.size) (hm : m = c.toNat) (hl : isLit lit s c) (hp : p.size ≤ 65536) (hs : s.size ≤ 65536) :
    Calls Try.prog 14 #[.string (p ++ lit.extract 0 (lit.size - 1)), .int .i64 n, .int .u8 m] w fun e w' => e = .returned (.tuple #[.string ⟨#[]⟩, .int .i64 0, .bool false]) ∧ Below w.heap.size w w' := by
  have hls := lit_size hl hs
  have e0 : (p ++ lit.extract 0 (lit.size - 1)).size = p.size + (lit.size - 1) := by simp [ByteArray.size_append]
  have h := zzlexQuoted_any (p ++ lit.extract 0 (lit.size - 1)) n p.size m c w hn hm (by omega) (by omega)
  have e1 : (p ++ lit.extract 0 (lit.size - 1)).data.toList = p.data.toList ++ (c :: dbl s.data.toList c) := by
    have ed : (lit.extract 0 (lit.size - 1)).data.toList = c :: dbl s.data.toList c := by
      rw [Lib.extract_data, Lib.size_eq lit, hl]
      simp
    rw [← ed]; simp
  have e2 : lexA ((p ++ lit.extract 0 (lit.size - 1)).data.toList.drop (p.size + 1)) c [] = none := by
    rw [e1, ← List.drop_drop, List.drop_left' (Lib.size_eq p).symm]
    simp only [List.drop_succ_cons, List.drop_zero]
    have := lexA_dbl s.data.toList c [] []
    rw [List.append_nil] at this
    rw [this]; rfl
  have t1 : lexText (p ++ lit.extract 0 (lit.size - 1)).data.toList p.size c = [] := by unfold lexText; rw [e2]
  have t2 : lexEnd (p ++ lit.extract 0 (lit.size - 1)).data.toList p.size c = 0 := by unfold lexEnd; rw [e2]
  have t3 : lexOk (p ++ lit.extract 0 (lit.size - 1)).data.toList p.size c = false := by unfold lexOk; rw [e2]; rfl
  rw [t1, t2, t3] at h
  exact h
end Go.Proofs.Qxb6605590a
