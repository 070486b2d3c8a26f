/-
  THE SHELL OF A PROOF OF 'Rows.FnLineCounterAtDistanceIsLineFeedsBetweenSaid' ('example.com/tuoguan/tuoguan/zzlaws_internal_contract_b1.FnLineCounterAtDistanceIsLineFeedsBetween'), WRITTEN BY PROGRAM (proof-skeleton.mjs, third state) off the guide's own print for that function. Not trusted: Lean checks it.
  The walk is ours. All else is THE GUIDE's OWN WAY (howto/template/XProofs.lean; Derived/Test/ChunkProofs.lean for 'Below') at this function's number and types: leave it.
-/
import Derived.Test.Qxb6609222aRows
import Derived.Test.Qxb6609222aRest
import Derived.WalkKit
import Derived.ProofKit
import Derived.OpenShut
import Derived.ShutString
import Derived.ChangeOld
import Derived.Below
namespace Go.Proofs.Qxb6609222a.fnLineCounterAtDistanceIsLineFeedsBetween
open Go.ChangeShapes Go.WideShapes Go.ChangeAt Go.RowKit
open Go.ChangeMaps (open_string shut_string)
set_option linter.unusedVariables false

theorem own : ownKnob Try.prog.godebug = none := by kernel_rfl
theorem laidOut : laidOutB Try.prog = true := by kernel_rfl

/-- WHAT THE WALK IS TOLD OF A SLICE OF INTEGERS THAT CAME IN: it is nil; or it leads to a row of 'cap' cells, the numbers 'zs' (the first 'len' are its elements, the rest its spare room), each fitting its kind. -/
def IsRow (k : IntKind) (w : World) (a : Option Addr) (len cap : Nat) (zs : List Int) : Prop :=
  (a = none ∧ len = 0 ∧ cap = 0 ∧ zs = []) ∨
  ∃ x, a = some x ∧ len ≤ cap ∧ cap ≤ maxLen ∧ zs.length = cap ∧ (∀ i, i < zs.length → w.cell? (x.add i) = some (.int k (zs.getD i 0))) ∧ ∀ n ∈ zs, (Lit.int k n).wf = true

/-! ### STEP 1: THE WALK -/
set_option maxHeartbeats 1000000 in
theorem zz_any (a0 : Option Addr) (n0 c0 : Nat) (p o : Int) (w : World) (h0 : n0 ≤ 2 ^ 63 - 1) :
    Calls Try.prog 9 #[.slice a0 n0 c0, .int .i64 p, .int .i64 o] w fun e w' => e = .returned (.bool (decide (n0 ≤ 1048576))) ∧ w' = w := by
  by_cases g1 : n0 ≤ 1048576
  all_goals
    go_enter Try.func9, Try.ntmps9
    go_wp2
    go_ret
    exact ⟨by simp; omega, rfl⟩

set_option maxHeartbeats 4000000 in
theorem main (a0 : Option Addr) (cap0 : Nat) (L : List UInt8) (p o : Nat) (w : World)
    (hclone : Calls Try.prog 6 #[.slice a0 L.length cap0] w fun e w' => ∃ A, e = .returned A ∧ Data w' w'.heap.size A L ∧ Below w.heap.size w w')
    (c0 : L.length ≤ 1048576) (hp : p ≤ L.length) (ho : o ≤ L.length) :
    Calls Try.prog 4 #[.slice a0 L.length cap0, .int .i64 p, .int .i64 o] w fun e w' => e = .returned (.bool true) ∧ Below w.heap.size w w' := by
  have HCL := hid hclone
  clear hclone
  have hle1 := lf_le L p
  have hle2 := lf_le L o
  go_enter Try.func4, Try.ntmps4
  go_wp2_with (go_at_call 9; refine (zz_any _ _ _ _ _ _ (by omega)).mono ?_; rintro e w' ⟨rfl, hw⟩; rw [hw]; clear hw w')
  refine HCL.out.mono ?_
  rintro e w1 ⟨A, rfl, hD1, hb1⟩
  clear HCL
  obtain ⟨aA, nA, cA, hA⟩ : ∃ a n c, A = .slice a n c := by
    obtain ⟨a, c, h⟩ := hD1.is
    exact ⟨a, _, c, h⟩
  have HA : Hid (∃ a n c, A = .slice a n c) := ⟨aA, nA, cA, hA⟩
  clear hA
  go_wp2_with fail
  refine (new_any A L _ HA.out).mono ?_
  rintro e w2 ⟨rfl, hL2, hb2, hs2⟩
  have hD2 := hD1.below hb2 (Nat.le_refl _)
  go_wp2_with fail
  refine (zzat_any w1.heap.size A L 0 p _ _ rfl hL2 hD2 (by omega) hp (by omega)).mono ?_
  rintro e w3 ⟨rfl, hL3, hb3⟩
  clear hL2
  have hD3 := hD2.below hb3 (Nat.le_refl _)
  go_wp2_with fail
  refine (zzat_any w1.heap.size A L p o _ _ rfl hL3 hD3 hp ho (by omega)).mono ?_
  rintro e w4 ⟨rfl, hL4, hb4⟩
  clear hL3
  have hD4 := hD3.below hb4 (Nat.le_refl _)
  have hs4 : w1.heap.size < w4.heap.size := hL4.lt
  clear hL4
  go_wp2_with fail
  refine (new_any A L _ HA.out).mono ?_
  rintro e w5 ⟨rfl, hL5, hb5, hs5⟩
  have hD5 := (hD4.below (B' := w4.heap.size) (Below.refl _ _) (Nat.le_of_lt hs4)).below hb5 (Nat.le_refl _)
  go_wp2_with fail
  refine (zzat_any w4.heap.size A L 0 o _ _ rfl hL5 hD5 (by omega) ho (by omega)).mono ?_
  rintro e w6 ⟨rfl, hL6, hb6⟩
  clear hL5 hL6
  have hD6 := hD5.below hb6 (Nat.le_refl _)
  have hbel : Hid (Below w.heap.size w w6) := by
    have e1 := hb1.size
    exact hb1.trans ((hb2.mono e1).trans ((hb3.mono e1).trans ((hb4.mono e1).trans ((hb5.mono (by omega)).trans (hb6.mono (by omega))))))
  clear hb1 hb2 hb3 hb4 hb5 hb6 hD1 hD2 hD3 hD4 hD5
  by_cases hpo : o < p
  · have hm := lf_mono L o p (by omega)
    go_wp2_with fail
    refine (countLF_any A _ L o p _ hD6 (by omega) hp (by omega)).mono ?_
    rintro e w7 ⟨rfl, hw⟩
    rw [hw]
    clear hw w7
    go_wp2_with fail
    go_ret
    exact ⟨by simp; omega, hbel.out⟩
  · have hm := lf_mono L p o (by omega)
    go_wp2_with fail
    refine (countLF_any A _ L p o _ hD6 (by omega) ho (by omega)).mono ?_
    rintro e w7 ⟨rfl, hw⟩
    rw [hw]
    clear hw w7
    go_wp2_with fail
    go_ret
    exact ⟨by simp; omega, hbel.out⟩

theorem clone_of (w : World) (a0 : Option Addr) (len0 cap0 : Nat) (z0 : List Int) (h : IsRow .u8 w a0 len0 cap0 z0) (hl : len0 ≤ 2 ^ 40) : (bytesIn z0 len0).length = len0 ∧
    Calls Try.prog 6 #[.slice a0 (bytesIn z0 len0).length cap0] w fun e w' => ∃ A, e = .returned A ∧ Data w' w'.heap.size A (bytesIn z0 len0) ∧ Below w.heap.size w w' := by
  rcases h with ⟨rfl, rfl, rfl, rfl⟩ | ⟨x, rfl, hc, hm, hz, hcell, hwf⟩
  · exact ⟨rfl, clone_nil 0 w⟩
  · have hlen := bytesIn_length hc hz
    refine ⟨hlen, ?_⟩
    by_cases h0 : len0 = 0
    · subst h0
      have e : bytesIn z0 0 = [] := by simp [bytesIn]
      rw [e]
      exact clone_empty x cap0 w
    · obtain ⟨bk, off, rfl, hcl⟩ := ints_at hcell (by omega)
      have hT : Txt w bk off (bytesIn z0 len0) := fun i hi => by
        rw [hcl i (by omega), bytesIn_get hc hz hwf i hi]
      exact clone_full bk off cap0 _ w hT (World.block_lt_of_cell? w _ (hT 0 (by omega))) (by omega)

theorem len_of {k : IntKind} {w : World} {a : Option Addr} {len cap : Nat} {zs : List Int} (h : IsRow k w a len cap zs) : len ≤ 2 ^ 63 - 1 := by
  rcases h with ⟨_, h, _, _⟩ | ⟨_, _, h1, h2, _⟩
  · omega
  · unfold maxLen at h2; omega

set_option maxHeartbeats 1000000 in
theorem walk (a0 : Option Addr) (len0 cap0 : Nat) (z0 : List Int) (a1 : Int) (a2 : Int) (w : World) (w0 : IsRow .u8 w a0 len0 cap0 z0) (w1 : (Lit.int .i64 a1).wf = true) (w2 : (Lit.int .i64 a2).wf = true) :
    Calls Try.prog 4 #[.slice a0 len0 cap0, .int .i64 a1, .int .i64 a2] w fun e w' => e = .returned (.bool true) ∧ Below w.heap.size w w' := by
  have h0 := len_of w0
  by_cases c0 : len0 ≤ 1048576
  · by_cases c1 : 0 ≤ a1
    · obtain ⟨p, hp⟩ : ∃ p : Nat, a1 = p := ⟨a1.toNat, by omega⟩
      subst hp
      by_cases c2 : p ≤ len0
      · by_cases c3 : 0 ≤ a2
        · obtain ⟨o, ho⟩ : ∃ o : Nat, a2 = o := ⟨a2.toNat, by omega⟩
          subst ho
          by_cases c4 : o ≤ len0
          · obtain ⟨e0, hcl⟩ := clone_of w a0 len0 cap0 z0 w0 (by omega)
            have hm := main a0 cap0 (bytesIn z0 len0) p o w hcl (by omega) (by omega) (by omega)
            rw [e0] at hm
            exact hm
          · clear w0 w1 w2
            go_enter Try.func4, Try.ntmps4
            go_wp2_with (go_at_call 9; refine (zz_any _ _ _ _ _ _ h0).mono ?_; rintro e w' ⟨rfl, rfl⟩)
            go_ret
            exact ⟨rfl, Below.refl _ _⟩
        · clear w0 w1 w2
          go_enter Try.func4, Try.ntmps4
          go_wp2_with (go_at_call 9; refine (zz_any _ _ _ _ _ _ h0).mono ?_; rintro e w' ⟨rfl, rfl⟩)
          go_ret
          exact ⟨rfl, Below.refl _ _⟩
      · clear w0 w1 w2
        go_enter Try.func4, Try.ntmps4
        go_wp2_with (go_at_call 9; refine (zz_any _ _ _ _ _ _ h0).mono ?_; rintro e w' ⟨rfl, rfl⟩)
        go_ret
        exact ⟨rfl, Below.refl _ _⟩
    · clear w0 w1 w2
      go_enter Try.func4, Try.ntmps4
      go_wp2_with (go_at_call 9; refine (zz_any _ _ _ _ _ _ h0).mono ?_; rintro e w' ⟨rfl, rfl⟩)
      go_ret
      exact ⟨rfl, Below.refl _ _⟩
  · clear w0 w1 w2
    go_enter Try.func4, Try.ntmps4
    go_wp2_with (go_at_call 9; refine (zz_any _ _ _ _ _ _ h0).mono ?_; rintro e w' ⟨rfl, rfl⟩)
    go_ret
    exact ⟨rfl, Below.refl _ _⟩

/-! ### THE ROW's STEP: WRITTEN OUT: LEAVE IT -/
set_option maxRecDepth 100000 in
theorem lifted (os : Os) (started : os.Started) (H : Type) (enc : TypeId × Value → H) :
    ReturnsInHanded {} Try.checked os 4 .any (Rows.fnLineCounterAtDistanceIsLineFeedsBetweenSpec.pre6 enc Try.prog Try.f4 Rows.fnLineCounterAtDistanceIsLineFeedsBetweenRow.domain false) (Rows.fnLineCounterAtDistanceIsLineFeedsBetweenSpec.post enc Try.prog Try.f4 false true false false) := by
  refine returnsInHanded_of_change (C := Try.checked) own started (by kernel_rfl) Try.func4
    (ChangeSpec.witness6 (enc := enc) (C := Try.checked) false ⟨#[], #[.slice none 0 0, .int .i64 0, .int .i64 0], []⟩ 8 (by kernel_rfl) (by kernel_rfl) (by kernel_rfl) (by kernel_rfl)) ?_
  intro W base args ds gs before hval0 hW hcnd _
  have hval : ∀ (j : Nat) t v, Try.f4.params[j]? = some t → args[j]? = some v → Value.okWide Try.prog W .any base t v := hval0
  have hW' := hW
  obtain ⟨p, q, hA0, hV, rfl, hfz, hnd⟩ := hW
  have hA : DataW.TrodAll enc Try.prog W 0 (fun _ => true) true Try.f4.params.toList args.toList ds p := hA0
  rw [Try.params4] at hA hval
  obtain ⟨v0, vs0, d0, ds0, p0, q0, hargs, rfl, rfl, h0, r0⟩ := trodAll_cons hA
  obtain ⟨v1, vs1, d1, ds1, p1, q1, rfl, rfl, rfl, h1, r1⟩ := trodAll_cons r0
  obtain ⟨v2, vs2, d2, ds2, p2, q2, rfl, rfl, rfl, h2, r2⟩ := trodAll_cons r1
  obtain ⟨rfl, rfl, rfl⟩ := trodAll_nil r2
  obtain rfl : args = #[v0, v1, v2] := by cases args; simp_all
  obtain ⟨rfl, rfl⟩ := trodVars_none hV
  obtain ⟨a0, len0, cap0, rfl⟩ := okWide_slice Try.underlying22 (hval 0 22 v0 rfl rfl)
  have k0 := h0
  have lt0 : ∀ x ∈ p0, x.block < W.heap.size := by obtain ⟨m, hm⟩ := k0; exact DataW.trod_lt m _ _ _ hm
  obtain ⟨z0, w0⟩ : ∃ zs, IsRow .u8 W a0 len0 cap0 zs := by
    obtain ⟨fuel, hf⟩ := h0
    rcases open_ints Try.underlying22 Try.underlying5 (by kernel_rfl) hf with ⟨hcs, _⟩ | ⟨x, l, c, zs, hcs, _, hl, hm, hz, _, hcell, hwz⟩
    · simp [Value.cells] at hcs
      obtain ⟨rfl, rfl, rfl⟩ := hcs
      exact ⟨[], .inl ⟨rfl, rfl, rfl, rfl⟩⟩
    · simp [Value.cells] at hcs
      obtain ⟨rfl, rfl, rfl⟩ := hcs
      exact ⟨zs, .inr ⟨_, rfl, hl, hm, by simpa using hz, hcell, hwz⟩⟩
  obtain ⟨a1, rfl, rfl, rfl, w1⟩ := open_int Try.underlying3 (hval 1 3 v1 rfl rfl) h1
  obtain ⟨a2, rfl, rfl, rfl, w2⟩ := open_int Try.underlying3 (hval 2 3 v2 rfl rfl) h2
  clear hA0 hval0
  refine (walk a0 len0 cap0 z0 a1 a2 W w0 w1 w2).mono fun e W' ⟨he, bel⟩ => ?_
  subst he
  exact ⟨_, rfl, _, _, _, [], _, [], hW', trodAll_mk1 (shut_bool Try.underlying4 _), (trodAll_cons_mk (Below.trod laidOut (by kernel_rfl) (of_decide_eq_true (by kernel_rfl)) k0 bel lt0) (trodAll_cons_mk (shut_int Try.underlying3 w1) (trodAll_cons_mk (shut_int Try.underlying3 w2) trodAll_mk0))), rfl, bel.frame _, fun h => by cases h⟩

theorem over : Rows.fnLineCounterAtDistanceIsLineFeedsBetweenRow.holds Try.pinned (OpenSpec.ofChange Rows.fnLineCounterAtDistanceIsLineFeedsBetweenSpec) :=
  OpenClaim.holds_of_wide 4 Try.f4 rfl rfl rfl rfl rfl rfl rfl ⟨rfl, rfl, rfl, rfl, rfl⟩ rfl rfl rfl rfl rfl (by kernel_rfl) Try.func4 (by kernel_rfl)
    (of_decide_eq_true (by kernel_rfl)) (by unfold Func.isWrapper; first | (rw [if_pos (by decide +kernel)]; kernel_rfl) | (rw [if_neg (by decide +kernel)]; exact ⟨rfl, rfl⟩))
    (fun os started H enc _ => lifted os started H enc)

/-- ████ THE STATEMENT ████ -/
theorem proved : Rows.FnLineCounterAtDistanceIsLineFeedsBetweenSaid := over
end Go.Proofs.Qxb6609222a.fnLineCounterAtDistanceIsLineFeedsBetween
