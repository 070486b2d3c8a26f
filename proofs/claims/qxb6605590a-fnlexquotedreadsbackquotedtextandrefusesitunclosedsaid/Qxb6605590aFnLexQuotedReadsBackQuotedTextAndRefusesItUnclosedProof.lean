/-
  THE SHELL OF A PROOF OF 'Rows.FnLexQuotedReadsBackQuotedTextAndRefusesItUnclosedSaid' ('example.com/chronoshard/chronoshard/zzlaws_pkg_sql_b1.FnLexQuotedReadsBackQuotedTextAndRefusesItUnclosed'), WRITTEN BY PROGRAM (proof-skeleton.mjs) off the guide's own print for that function. Not trusted: Lean checks it.
  The walk is ours. All else is THE GUIDE's TEMPLATE (howto/template/XProofs.lean) at this function's number and types: leave it.
-/
import Derived.Test.Qxb6605590aRows
import Derived.WalkKit
import Derived.ProofKit
import Derived.OpenShut
import Derived.ShutString
import Derived.Test.Qxb6605590aLexQuote
namespace Go.Proofs.Qxb6605590a.fnLexQuotedReadsBackQuotedTextAndRefusesItUnclosed
open Go.ChangeShapes Go.WideShapes Go.ChangeAt Go.RowKit
open Go.ChangeMaps (open_string shut_string)
set_option linter.unusedVariables false      -- a walk need not use every 'w<i>' (that an integer argument fits its kind)

theorem own : ownKnob Try.prog.godebug = none := by kernel_rfl

/-! ### STEP 1: THE WALK -/
open Go.Proofs.Qxb6605590a.Plain
set_option maxHeartbeats 1000000 in
theorem zz_any (p q r : ByteArray) (i : Int) (w : World) (hp : p.size ≤ 2 ^ 63 - 1) (hq : q.size ≤ 2 ^ 63 - 1) (hr : r.size ≤ 2 ^ 63 - 1) :
    Calls Try.prog 16 #[.string p, .string q, .string r, .int .u8 i] w fun e w' => e = .returned (.bool (decide (p.size + q.size + r.size ≤ 1048576))) ∧ w' = w := by
  by_cases h1 : p.size ≤ 1048576
  · by_cases h2 : q.size ≤ 1048576
    · by_cases h3 : p.size + q.size ≤ 1048576
      · by_cases h4 : r.size ≤ 1048576
        · by_cases h5 : p.size + q.size + r.size ≤ 1048576
          all_goals
            go_enter Try.func16, Try.ntmps16
            go_wp2
            go_ret
            exact ⟨by simp; omega, rfl⟩
        · go_enter Try.func16, Try.ntmps16
          go_wp2
          go_ret
          exact ⟨by simp; omega, rfl⟩
      · go_enter Try.func16, Try.ntmps16
        go_wp2
        go_ret
        exact ⟨by simp; omega, rfl⟩
    · go_enter Try.func16, Try.ntmps16
      go_wp2
      go_ret
      exact ⟨by simp; omega, rfl⟩
  · go_enter Try.func16, Try.ntmps16
    go_wp2
    go_ret
    exact ⟨by simp; omega, rfl⟩

theorem head_of (r : ByteArray) (c : UInt8) (h : ∀ h0 : 0 < r.size, ((r[0].toNat : Int) == (c.toNat : Int)) = false) : r.data.toList.head? ≠ some c := by
  by_cases h0 : 0 < r.size
  · have hd := drop_cons r 0 h0
    rw [List.drop_zero] at hd
    rw [hd]
    have := h h0
    rw [beq_eq_false_iff_ne] at this
    simp only [List.head?_cons, ne_eq, Option.some.injEq]
    intro e
    exact this (by rw [e])
  · have : r.data.toList = [] := List.length_eq_zero_iff.1 (by rw [← Lib.size_eq]; omega)
    rw [this]; simp

set_option maxHeartbeats 1000000 in
/-- The main way: the rest opens with no quote. 'hq': what the test at the rest's first byte comes to. -/
theorem tail (a0 a1 a2 : ByteArray) (a3 : Int) (c : UInt8) (hc : a3 = c.toNat) (w0 : a0.size ≤ 65536) (w1 : a1.size ≤ 65536) (w2 : a2.size ≤ 65536) (w : World) (hh : ∀ h0 : 0 < a2.size, ((a2[0].toNat : Int) == (c.toNat : Int)) = false) :
    Calls Try.prog 5 #[.string a0, .string a1, .string a2, .int .u8 a3] w fun e w' => e = .returned (.bool true) ∧ Below w.heap.size w w' := by
  have HH := hid (head_of a2 c hh)
  have c0 : a0.size + a1.size + a2.size ≤ 1048576 := by omega
  by_cases h0 : 0 < a2.size
  · have h1 := hh h0
    clear hh
    rw [← hc] at h1
    have HC := hid hc
    clear hc
    go_enter Try.func5, Try.ntmps5
    go_wp2_with (go_at_call 16; refine (zz_any _ _ _ _ _ (by omega) (by omega) (by omega)).mono ?_; rintro e w' ⟨rfl, rfl⟩)
    refine (quote_any a1 _ c _ HC.out w1).mono ?_
    rintro e W1 ⟨lit, rfl, hl, hb1⟩
    have hls := lit_size hl w1
    go_wp2_with fail
    refine (read_whole a0 lit a1 a2 _ _ c _ rfl HC.out hl w0 w1 w2 HH.out).mono ?_
    rintro e W2 ⟨rfl, hb2⟩
    go_wp2_with fail
    refine (read_open a0 lit a1 _ _ c _ rfl HC.out hl w0 w1).mono ?_
    rintro e W3 ⟨rfl, hb3⟩
    go_wp2_with fail
    go_ret
    exact ⟨rfl, (hb1.trans (hb2.mono hb1.size)).trans (hb3.mono (Nat.le_trans hb1.size hb2.size))⟩
  · clear hh
    have HC := hid hc
    clear hc
    go_enter Try.func5, Try.ntmps5
    go_wp2_with (go_at_call 16; refine (zz_any _ _ _ _ _ (by omega) (by omega) (by omega)).mono ?_; rintro e w' ⟨rfl, rfl⟩)
    refine (quote_any a1 _ c _ HC.out w1).mono ?_
    rintro e W1 ⟨lit, rfl, hl, hb1⟩
    have hls := lit_size hl w1
    go_wp2_with fail
    refine (read_whole a0 lit a1 a2 _ _ c _ rfl HC.out hl w0 w1 w2 HH.out).mono ?_
    rintro e W2 ⟨rfl, hb2⟩
    go_wp2_with fail
    refine (read_open a0 lit a1 _ _ c _ rfl HC.out hl w0 w1).mono ?_
    rintro e W3 ⟨rfl, hb3⟩
    go_wp2_with fail
    go_ret
    exact ⟨rfl, (hb1.trans (hb2.mono hb1.size)).trans (hb3.mono (Nat.le_trans hb1.size hb2.size))⟩

set_option maxHeartbeats 1000000 in
theorem walk (a0 : ByteArray) (a1 : ByteArray) (a2 : ByteArray) (a3 : Int) (w0 : a0.size ≤ maxLen) (w1 : a1.size ≤ maxLen) (w2 : a2.size ≤ maxLen) (w3 : (Lit.int .u8 a3).wf = true) (w : World) :
    Calls Try.prog 5 #[.string a0, .string a1, .string a2, .int .u8 a3] w fun e w' => e = .returned (.bool true) ∧ Below w.heap.size w w' := by
  unfold maxLen at w0 w1 w2
  have hb := bounds_u8 w3
  obtain ⟨c, hc⟩ : ∃ c : UInt8, a3 = c.toNat := ⟨UInt8.ofNat a3.toNat, by rw [UInt8.toNat_ofNat']; omega⟩
  by_cases c0 : a0.size + a1.size + a2.size ≤ 1048576
  · by_cases c1 : a0.size ≤ 65536
    · by_cases c2 : a1.size ≤ 65536
      · by_cases c3 : a2.size ≤ 65536
        · by_cases h0 : 0 < a2.size
          · by_cases ht : ((a2[0].toNat : Int) == (c.toNat : Int)) = true
            · rw [← hc] at ht
              clear hc w3
              go_enter Try.func5, Try.ntmps5
              go_wp2_with (go_at_call 16; refine (zz_any _ _ _ _ _ w0 w1 w2).mono ?_; rintro e w' ⟨rfl, rfl⟩)
              go_ret
              exact ⟨rfl, Below.refl _ _⟩
            · exact tail a0 a1 a2 a3 c hc c1 c2 c3 w fun _ => by simpa using ht
          · exact tail a0 a1 a2 a3 c hc c1 c2 c3 w fun h => absurd h h0
        · clear hc w3
          go_enter Try.func5, Try.ntmps5
          go_wp2_with (go_at_call 16; refine (zz_any _ _ _ _ _ w0 w1 w2).mono ?_; rintro e w' ⟨rfl, rfl⟩)
          go_ret
          exact ⟨rfl, Below.refl _ _⟩
      · clear hc w3
        go_enter Try.func5, Try.ntmps5
        go_wp2_with (go_at_call 16; refine (zz_any _ _ _ _ _ w0 w1 w2).mono ?_; rintro e w' ⟨rfl, rfl⟩)
        go_ret
        exact ⟨rfl, Below.refl _ _⟩
    · clear hc w3
      go_enter Try.func5, Try.ntmps5
      go_wp2_with (go_at_call 16; refine (zz_any _ _ _ _ _ w0 w1 w2).mono ?_; rintro e w' ⟨rfl, rfl⟩)
      go_ret
      exact ⟨rfl, Below.refl _ _⟩
  · clear hc w3
    go_enter Try.func5, Try.ntmps5
    go_wp2_with (go_at_call 16; refine (zz_any _ _ _ _ _ w0 w1 w2).mono ?_; rintro e w' ⟨rfl, rfl⟩)
    go_ret
    exact ⟨rfl, Below.refl _ _⟩

/-! ### THE ROW's STEP: WRITTEN OUT: LEAVE IT -/
set_option maxRecDepth 100000 in
theorem lifted (os : Os) (started : os.Started) (H : Type) (enc : TypeId × Value → H) :
    ReturnsInHanded {} Try.checked os 5 .any (Rows.fnLexQuotedReadsBackQuotedTextAndRefusesItUnclosedSpec.pre6 enc Try.prog Try.f5 Rows.fnLexQuotedReadsBackQuotedTextAndRefusesItUnclosedRow.domain false) (Rows.fnLexQuotedReadsBackQuotedTextAndRefusesItUnclosedSpec.post enc Try.prog Try.f5 false true false false) := by
  refine returnsInHanded_of_change (C := Try.checked) own started (by kernel_rfl) Try.func5
    (ChangeSpec.witness6 (enc := enc) (C := Try.checked) false ⟨#[], #[.string ByteArray.empty, .string ByteArray.empty, .string ByteArray.empty, .int .u8 0], []⟩ 8 (by kernel_rfl) (by kernel_rfl) (by kernel_rfl) (by kernel_rfl)) ?_
  intro W base args ds gs before hval0 hW hcnd _
  have hval : ∀ (j : Nat) t v, Try.f5.params[j]? = some t → args[j]? = some v → Value.okWide Try.prog W .any base t v := hval0
  have hW' := hW
  obtain ⟨p, q, hA0, hV, rfl, hfz, hnd⟩ := hW
  have hA : DataW.TrodAll enc Try.prog W 0 (fun _ => true) true Try.f5.params.toList args.toList ds p := hA0
  rw [Try.params5] at hA hval
  obtain ⟨v0, vs0, d0, ds0, p0, q0, hargs, rfl, rfl, h0, r0⟩ := trodAll_cons hA
  obtain ⟨v1, vs1, d1, ds1, p1, q1, rfl, rfl, rfl, h1, r1⟩ := trodAll_cons r0
  obtain ⟨v2, vs2, d2, ds2, p2, q2, rfl, rfl, rfl, h2, r2⟩ := trodAll_cons r1
  obtain ⟨v3, vs3, d3, ds3, p3, q3, rfl, rfl, rfl, h3, r3⟩ := trodAll_cons r2
  obtain ⟨rfl, rfl, rfl⟩ := trodAll_nil r3
  obtain rfl : args = #[v0, v1, v2, v3] := by cases args; simp_all
  obtain ⟨rfl, rfl⟩ := trodVars_none hV
  obtain ⟨a0, rfl, rfl, rfl, w0⟩ := open_string Try.underlying9 (hval 0 9 v0 rfl rfl) h0
  obtain ⟨a1, rfl, rfl, rfl, w1⟩ := open_string Try.underlying9 (hval 1 9 v1 rfl rfl) h1
  obtain ⟨a2, rfl, rfl, rfl, w2⟩ := open_string Try.underlying9 (hval 2 9 v2 rfl rfl) h2
  obtain ⟨a3, rfl, rfl, rfl, w3⟩ := open_int Try.underlying5 (hval 3 5 v3 rfl rfl) h3
  clear hA0 hval0
  simp only [List.append_nil] at hW'
  refine (walk a0 a1 a2 a3 w0 w1 w2 w3 W).mono fun e W' ⟨he, bel⟩ => ?_
  subst he
  exact ⟨_, rfl, _, _, _, [], [], [], hW', (trodAll_cons_mk (shut_bool Try.underlying4 _) trodAll_mk0), (trodAll_cons_mk (shut_string Try.underlying9 w0) (trodAll_cons_mk (shut_string Try.underlying9 w1) (trodAll_cons_mk (shut_string Try.underlying9 w2) (trodAll_cons_mk (shut_int Try.underlying5 w3) trodAll_mk0)))), rfl, bel.frame _, fun h => by cases h⟩

theorem over : Rows.fnLexQuotedReadsBackQuotedTextAndRefusesItUnclosedRow.holds Try.pinned (OpenSpec.ofChange Rows.fnLexQuotedReadsBackQuotedTextAndRefusesItUnclosedSpec) :=
  OpenClaim.holds_of_wide 5 Try.f5 rfl rfl rfl rfl rfl rfl rfl ⟨rfl, rfl, rfl, rfl, rfl⟩ rfl rfl rfl rfl rfl (by kernel_rfl) Try.func5 (by kernel_rfl)
    (of_decide_eq_true (by kernel_rfl)) (by unfold Func.isWrapper; first | (rw [if_pos (by decide +kernel)]; kernel_rfl) | (rw [if_neg (by decide +kernel)]; exact ⟨rfl, rfl⟩))
    (fun os started H enc _ => lifted os started H enc)

/-- ████ THE STATEMENT ████ -/
theorem proved : Rows.FnLexQuotedReadsBackQuotedTextAndRefusesItUnclosedSaid :=
  over
end Go.Proofs.Qxb6605590a.fnLexQuotedReadsBackQuotedTextAndRefusesItUnclosed
