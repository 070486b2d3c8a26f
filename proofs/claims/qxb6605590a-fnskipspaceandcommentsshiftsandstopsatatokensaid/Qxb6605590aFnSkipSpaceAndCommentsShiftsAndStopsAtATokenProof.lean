/-
  THE SHELL OF A PROOF OF 'Rows.FnSkipSpaceAndCommentsShiftsAndStopsAtATokenSaid' ('example.com/chronoshard/chronoshard/zzlaws_pkg_sql_b1.FnSkipSpaceAndCommentsShiftsAndStopsAtAToken'), WRITTEN BY PROGRAM (proof-skeleton.mjs) off the guide's own print for that function. Not trusted: Lean checks it.
  The walk is ours. All else is THE GUIDE's TEMPLATE (howto/template/XProofs.lean) at this function's number and types: leave it.
-/
import Derived.Test.Qxb6605590aRows
import Derived.WalkKit
import Derived.ProofKit
import Derived.OpenShut
import Derived.ShutString
import Derived.Test.Qxb6605590aSkipWalks
namespace Go.Proofs.Qxb6605590a.fnSkipSpaceAndCommentsShiftsAndStopsAtAToken
open Go.ChangeShapes Go.WideShapes Go.ChangeAt Go.RowKit
open Go.ChangeMaps (open_string shut_string)
set_option linter.unusedVariables false      -- a walk need not use every 'w<i>' (that an integer argument fits its kind)

theorem own : ownKnob Try.prog.godebug = none := by kernel_rfl

/-! ### STEP 1: THE WALK -/
open Go.Proofs.Qxb6605590a.Plain
set_option maxHeartbeats 400000 in
theorem zz_any (p q : ByteArray) (i : Int) (w : World) (hp : p.size ≤ 2 ^ 63 - 1) (hq : q.size ≤ 2 ^ 63 - 1) :
    Calls Try.prog 9 #[.string p, .string q, .int .i64 i] w fun e w' => e = .returned (.bool (decide (p.size + q.size ≤ 1048576))) ∧ w' = w := by
  by_cases h1 : p.size ≤ 1048576
  · by_cases h2 : q.size ≤ 1048576
    · by_cases h3 : p.size + q.size ≤ 1048576
      all_goals
        go_enter Try.func9, Try.ntmps9
        go_wp2
        go_ret
        exact ⟨by simp; omega, rfl⟩
    · go_enter Try.func9, Try.ntmps9
      go_wp2
      go_ret
      exact ⟨by simp; omega, rfl⟩
  · go_enter Try.func9, Try.ntmps9
    go_wp2
    go_ret
    exact ⟨by simp; omega, rfl⟩

set_option maxHeartbeats 400000 in
theorem zzskip_any (q : ByteArray) (n : Int) (k : Nat) (w : World) (hn : n = k) (hq : q.size ≤ 2 ^ 40) (hk : k ≤ q.size) :
    Calls Try.prog 10 #[.string q, .int .i64 n] w fun e w' => e = .returned (.int .i64 (sAns q.data.toList k)) ∧ w' = w := by
  subst hn
  go_enter Try.func10, Try.ntmps10
  go_wp2_with (go_at_call 24; refine (skip_any q k _ hq hk).mono ?_; rintro e w' ⟨rfl, rfl⟩)
  go_ret
  exact ⟨rfl, rfl⟩

set_option maxHeartbeats 400000 in
theorem zzblank_any (b : UInt8) (w : World) :
    Calls Try.prog 11 #[.int .u8 b.toNat] w fun e w' => e = .returned (.bool (sBlank b)) ∧ w' = w := by
  rw [sBlank_eq]
  generalize (b.toNat : Int) = n
  go_enter Try.func11, Try.ntmps11
  go_wp2
  all_goals (go_ret; refine ⟨?_, rfl⟩; simp [*])

theorem sAt2_eq (q : ByteArray) (r : Nat) (x y : UInt8) (h : r + 1 < q.size) : sAt2 (q.data.toList.drop r) x y = ((q[r].toNat : Int) == (x.toNat : Int) && (q[r + 1].toNat : Int) == (y.toNat : Int)) := by
  rw [drop_cons q r (by omega), drop_cons q (r + 1) h]
  unfold sAt2 Lib.hasPrefix
  rw [Bool.eq_iff_iff]
  simp only [List.isPrefixOf, Bool.and_true, Bool.and_eq_true, beq_iff_eq, ← UInt8.toNat_inj]
  omega

theorem sAt2_short (q : ByteArray) (r : Nat) (x y : UInt8) (h : ¬ r + 1 < q.size) : sAt2 (q.data.toList.drop r) x y = false := by
  rw [Bool.eq_false_iff]
  intro hc
  have := sAt2_fits hc
  omega

set_option maxHeartbeats 400000 in
theorem zzat2_no (q : ByteArray) (r : Nat) (x y : UInt8) (w : World) (hq : q.size ≤ 2 ^ 40) (ha : sAt2 (q.data.toList.drop r) x y = false) :
    Calls Try.prog 12 #[.string q, .int .i64 r, .int .u8 x.toNat, .int .u8 y.toNat] w fun e w' => e = .returned (.bool false) ∧ w' = w := by
  by_cases h : r + 1 < q.size
  · rw [sAt2_eq q r x y h] at ha
    generalize (x.toNat : Int) = X at *
    generalize (y.toNat : Int) = Y at *
    have hr : r < q.size := by omega
    by_cases h1 : ((q[r].toNat : Int) == X) = true
    · rw [h1, Bool.true_and] at ha
      go_enter Try.func12, Try.ntmps12
      go_wp2
      go_ret
      exact ⟨rfl, rfl⟩
    · have h1' : ((q[r].toNat : Int) == X) = false := by simpa using h1
      clear h1 ha
      go_enter Try.func12, Try.ntmps12
      go_wp2
      go_ret
      exact ⟨rfl, rfl⟩
  · clear ha
    go_enter Try.func12, Try.ntmps12
    go_wp2
    go_ret
    exact ⟨rfl, rfl⟩

theorem zzat2_dash (q : ByteArray) (r : Nat) (w : World) (hq : q.size ≤ 2 ^ 40) (ha : sAt2 (q.data.toList.drop r) 45 45 = false) :
    Calls Try.prog 12 #[.string q, .int .i64 r, .int .u8 45, .int .u8 45] w fun e w' => e = .returned (.bool false) ∧ w' = w := zzat2_no q r 45 45 w hq ha
theorem zzat2_star (q : ByteArray) (r : Nat) (w : World) (hq : q.size ≤ 2 ^ 40) (ha : sAt2 (q.data.toList.drop r) 47 42 = false) :
    Calls Try.prog 12 #[.string q, .int .i64 r, .int .u8 47, .int .u8 42] w fun e w' => e = .returned (.bool false) ∧ w' = w := zzat2_no q r 47 42 w hq ha

theorem append_data (p q : ByteArray) : (p ++ q).data.toList = p.data.toList ++ q.data.toList := by simp

theorem zzskip_join (p q : ByteArray) (n : Int) (k : Nat) (w : World) (hn : n = p.size + k) (hp : p.size ≤ 65536) (hq : q.size ≤ 65536) (hk : k ≤ q.size) :
    Calls Try.prog 10 #[.string (p ++ q), .int .i64 n] w fun e w' => e = .returned (.int .i64 (if sAns q.data.toList k < 0 then -1 else p.size + sAns q.data.toList k)) ∧ w' = w := by
  have h := zzskip_any (p ++ q) n (p.size + k) w (by omega) (by rw [ByteArray.size_append]; omega) (by rw [ByteArray.size_append]; omega)
  rw [append_data, Lib.size_eq p, sAns_shift, ← Lib.size_eq p] at h
  exact h

theorem sTok_parts (q : ByteArray) (r : Nat) (h : r < q.size) (ht : sTok (q.data.toList.drop r) = true) : sBlank q[r] = false ∧ sAt2 (q.data.toList.drop r) 45 45 = false ∧ sAt2 (q.data.toList.drop r) 47 42 = false := by
  rw [drop_cons q r h] at *
  simp only [sTok, Bool.and_eq_true, Bool.not_eq_true'] at ht
  exact ⟨ht.1.1, ht.1.2, ht.2⟩

set_option maxHeartbeats 1000000 in
theorem walk (a0 : ByteArray) (a1 : ByteArray) (a2 : Int) (w0 : a0.size ≤ maxLen) (w1 : a1.size ≤ maxLen) (w2 : (Lit.int .i64 a2).wf = true) (w : World) :
    Calls Try.prog 3 #[.string a0, .string a1, .int .i64 a2] w fun e w' => e = .returned (.bool true) ∧ Grown w w' := by
  unfold maxLen at w0 w1
  by_cases c0 : a0.size + a1.size ≤ 1048576
  · by_cases c1 : a0.size ≤ 65536
    · by_cases c2 : a1.size ≤ 65536
      · by_cases c3 : 0 ≤ a2
        · obtain ⟨k, rfl⟩ : ∃ k : Nat, a2 = k := ⟨a2.toNat, by omega⟩
          by_cases c4 : k ≤ a1.size
          · rcases sAns_found a1.data.toList k (by rw [← Lib.size_eq]; exact c4) with hA | ⟨r, hA, hr1, hr2, ht⟩
            · go_enter Try.func3, Try.ntmps3
              go_wp2_with (go_at_call 9; refine (zz_any _ _ _ _ w0 w1).mono ?_; rintro e w' ⟨rfl, rfl⟩)
              refine (zzskip_any a1 _ k _ rfl (by omega) c4).mono ?_
              rintro e w' ⟨rfl, rfl⟩
              go_wp2_with fail
              refine (zzskip_join a0 a1 _ k _ (by omega) c1 c2 c4).mono ?_
              rintro e w' ⟨rfl, rfl⟩
              go_wp2_with fail
              go_ret
              exact ⟨rfl, Grown.refl _⟩
            · rw [← Lib.size_eq] at hr2
              by_cases hr3 : r < a1.size
              · obtain ⟨t1, t2, t3⟩ := sTok_parts a1 r hr3 ht
                clear ht
                have hr4 : ((r : Int) == (a1.size : Int)) = false := by rw [beq_eq_false_iff_ne]; omega
                go_enter Try.func3, Try.ntmps3
                go_wp2_with (go_at_call 9; refine (zz_any _ _ _ _ w0 w1).mono ?_; rintro e w' ⟨rfl, rfl⟩)
                refine (zzskip_any a1 _ k _ rfl (by omega) c4).mono ?_
                rintro e w' ⟨rfl, rfl⟩
                go_wp2_with fail
                refine (zzskip_join a0 a1 _ k _ (by omega) c1 c2 c4).mono ?_
                rintro e w' ⟨rfl, rfl⟩
                go_wp2_with (go_at_call 11; refine (zzblank_any _ _).mono ?_; rintro e w' ⟨rfl, rfl⟩)
                refine (zzat2_dash a1 r _ (by omega) t2).mono ?_
                rintro e w' ⟨rfl, rfl⟩
                go_wp2_with fail
                refine (zzat2_star a1 r _ (by omega) t3).mono ?_
                rintro e w' ⟨rfl, rfl⟩
                go_wp2_with fail
                go_ret
                exact ⟨rfl, Grown.refl _⟩
              · obtain rfl : r = a1.size := by omega
                clear ht
                go_enter Try.func3, Try.ntmps3
                go_wp2_with (go_at_call 9; refine (zz_any _ _ _ _ w0 w1).mono ?_; rintro e w' ⟨rfl, rfl⟩)
                refine (zzskip_any a1 _ k _ rfl (by omega) c4).mono ?_
                rintro e w' ⟨rfl, rfl⟩
                go_wp2_with fail
                refine (zzskip_join a0 a1 _ k _ (by omega) c1 c2 c4).mono ?_
                rintro e w' ⟨rfl, rfl⟩
                go_wp2_with fail
                go_ret
                exact ⟨rfl, Grown.refl _⟩
          · go_enter Try.func3, Try.ntmps3
            go_wp2_with (go_at_call 9; refine (zz_any _ _ _ _ w0 w1).mono ?_; rintro e w' ⟨rfl, rfl⟩)
            go_ret
            exact ⟨rfl, Grown.refl _⟩
        · go_enter Try.func3, Try.ntmps3
          go_wp2_with (go_at_call 9; refine (zz_any _ _ _ _ w0 w1).mono ?_; rintro e w' ⟨rfl, rfl⟩)
          go_ret
          exact ⟨rfl, Grown.refl _⟩
      · go_enter Try.func3, Try.ntmps3
        go_wp2_with (go_at_call 9; refine (zz_any _ _ _ _ w0 w1).mono ?_; rintro e w' ⟨rfl, rfl⟩)
        go_ret
        exact ⟨rfl, Grown.refl _⟩
    · go_enter Try.func3, Try.ntmps3
      go_wp2_with (go_at_call 9; refine (zz_any _ _ _ _ w0 w1).mono ?_; rintro e w' ⟨rfl, rfl⟩)
      go_ret
      exact ⟨rfl, Grown.refl _⟩
  · go_enter Try.func3, Try.ntmps3
    go_wp2_with (go_at_call 9; refine (zz_any _ _ _ _ w0 w1).mono ?_; rintro e w' ⟨rfl, rfl⟩)
    go_ret
    exact ⟨rfl, Grown.refl _⟩

/-! ### THE ROW's STEP: WRITTEN OUT: LEAVE IT -/
set_option maxRecDepth 100000 in
theorem lifted (os : Os) (started : os.Started) (H : Type) (enc : TypeId × Value → H) :
    ReturnsInHanded {} Try.checked os 3 .any (Rows.fnSkipSpaceAndCommentsShiftsAndStopsAtATokenSpec.pre6 enc Try.prog Try.f3 Rows.fnSkipSpaceAndCommentsShiftsAndStopsAtATokenRow.domain false) (Rows.fnSkipSpaceAndCommentsShiftsAndStopsAtATokenSpec.post enc Try.prog Try.f3 false true false false) := by
  refine returnsInHanded_of_change (C := Try.checked) own started (by kernel_rfl) Try.func3
    (ChangeSpec.witness6 (enc := enc) (C := Try.checked) false ⟨#[], #[.string ByteArray.empty, .string ByteArray.empty, .int .i64 0], []⟩ 8 (by kernel_rfl) (by kernel_rfl) (by kernel_rfl) (by kernel_rfl)) ?_
  intro W base args ds gs before hval0 hW hcnd _
  have hval : ∀ (j : Nat) t v, Try.f3.params[j]? = some t → args[j]? = some v → Value.okWide Try.prog W .any base t v := hval0
  have hW' := hW
  obtain ⟨p, q, hA0, hV, rfl, hfz, hnd⟩ := hW
  have hA : DataW.TrodAll enc Try.prog W 0 (fun _ => true) true Try.f3.params.toList args.toList ds p := hA0
  rw [Try.params3] at hA hval
  obtain ⟨v0, vs0, d0, ds0, p0, q0, hargs, rfl, rfl, h0, r0⟩ := trodAll_cons hA
  obtain ⟨v1, vs1, d1, ds1, p1, q1, rfl, rfl, rfl, h1, r1⟩ := trodAll_cons r0
  obtain ⟨v2, vs2, d2, ds2, p2, q2, rfl, rfl, rfl, h2, r2⟩ := trodAll_cons r1
  obtain ⟨rfl, rfl, rfl⟩ := trodAll_nil r2
  obtain rfl : args = #[v0, v1, v2] := by cases args; simp_all
  obtain ⟨rfl, rfl⟩ := trodVars_none hV
  obtain ⟨a0, rfl, rfl, rfl, w0⟩ := open_string Try.underlying9 (hval 0 9 v0 rfl rfl) h0
  obtain ⟨a1, rfl, rfl, rfl, w1⟩ := open_string Try.underlying9 (hval 1 9 v1 rfl rfl) h1
  obtain ⟨a2, rfl, rfl, rfl, w2⟩ := open_int Try.underlying3 (hval 2 3 v2 rfl rfl) h2
  clear hA0 hval0
  simp only [List.append_nil] at hW'
  refine (walk a0 a1 a2 w0 w1 w2 W).mono fun e W' ⟨he, hg⟩ => ?_
  subst he
  exact ⟨_, rfl, post_of_same (pa := []) (pv := []) hW' (fun _ _ _ => (trodAll_cons_mk (shut_bool Try.underlying4 _) trodAll_mk0)) (fun sp _ => (trodAll_cons_mk (shut_string Try.underlying9 w0) (trodAll_cons_mk (shut_string Try.underlying9 w1) (trodAll_cons_mk (shut_int Try.underlying3 w2) trodAll_mk0)))) (fun _ _ => rfl) rfl
    (hg.frame _) hg.2.1 (ok_one (by kernel_rfl) rfl (okWide_bool_mk Try.underlying4 _))⟩

theorem over : Rows.fnSkipSpaceAndCommentsShiftsAndStopsAtATokenRow.holds Try.pinned (OpenSpec.ofChange Rows.fnSkipSpaceAndCommentsShiftsAndStopsAtATokenSpec) :=
  OpenClaim.holds_of_wide 3 Try.f3 rfl rfl rfl rfl rfl rfl rfl ⟨rfl, rfl, rfl, rfl, rfl⟩ rfl rfl rfl rfl rfl (by kernel_rfl) Try.func3 (by kernel_rfl)
    (of_decide_eq_true (by kernel_rfl)) (by unfold Func.isWrapper; first | (rw [if_pos (by decide +kernel)]; kernel_rfl) | (rw [if_neg (by decide +kernel)]; exact ⟨rfl, rfl⟩))
    (fun os started H enc _ => lifted os started H enc)

/-- ████ THE STATEMENT ████ -/
theorem proved : Rows.FnSkipSpaceAndCommentsShiftsAndStopsAtATokenSaid :=
  over
end Go.Proofs.Qxb6605590a.fnSkipSpaceAndCommentsShiftsAndStopsAtAToken
