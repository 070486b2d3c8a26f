/-
  THE SHELL OF A PROOF OF 'Rows.FnNestedMatchesRecursiveDescentSaid' ('example.com/loomwork/loomwork/zzlaws_internal_jsonobject_b1.FnNestedMatchesRecursiveDescent'), WRITTEN BY PROGRAM (proof-skeleton.mjs, third state) off the guide's own print for that function. Not trusted: Lean checks it.
  The walk is ours. All else is THE GUIDE's OWN WAY (howto/template/XProofs.lean; Derived/Test/ChunkProofs.lean for 'Below') at this function's number and types: leave it.
-/
import Derived.Test.Qxb6606444aRows
import Derived.Test.Qxb6606444aDescent
import Derived.WalkKit
import Derived.ProofKit
import Derived.OpenShut
import Derived.ShutString
import Derived.ChangeOld
import Derived.Below
namespace Go.Proofs.Qxb6606444a.fnNestedMatchesRecursiveDescent
open Go.ChangeShapes Go.WideShapes Go.ChangeAt Go.RowKit
open Go.ChangeMaps (open_string shut_string)
set_option linter.unusedVariables false

theorem own : ownKnob Try.prog.godebug = none := by kernel_rfl
theorem laidOut : laidOutB Try.prog = true := by kernel_rfl

/-- WHAT THE WALK IS TOLD OF A SLICE OF INTEGERS THAT CAME IN: it is nil; or it leads to a row of 'cap' cells, the numbers 'zs' (the first 'len' are its elements, the rest its spare room), each fitting its kind. -/
def IsRow (k : IntKind) (w : World) (a : Option Addr) (len cap : Nat) (zs : List Int) : Prop :=
  (a = none ∧ len = 0 ∧ cap = 0 ∧ zs = []) ∨
  ∃ x, a = some x ∧ len ≤ cap ∧ cap ≤ maxLen ∧ zs.length = cap ∧ (∀ i, i < zs.length → w.cell? (x.add i) = some (.int k (zs.getD i 0))) ∧ ∀ n ∈ zs, (Lit.int k n).wf = true

/-! ### STEP 1: THE WALK -/
open Go.Proofs.Qxb6606444a.Plain

set_option maxHeartbeats 400000 in
theorem zz_any (a : Option Addr) (n c : Nat) (i : Int) (f : Bool) (w : World) (hn : n ≤ 2 ^ 63 - 1) :
    Calls Try.prog 6 #[.slice a n c, .int .i64 i, .bool f] w fun e w' => e = .returned (.bool (decide (n ≤ 1048576))) ∧ w' = w := by
  by_cases h1 : n ≤ 1048576
  all_goals
    go_enter Try.func6, Try.ntmps6
    go_wp2
    go_ret
    exact ⟨by simp; omega, rfl⟩

set_option maxHeartbeats 2000000 in
theorem main (bk off cap : Nat) (L : List UInt8) (k : Nat) (f : Bool) (w : World) (ht : Txt w bk off L) (hb : bk < w.heap.size) (hl : L.length ≤ 1048576) (hc : L.length ≤ cap) (hk : k < L.length) (ho : jOpen L[k] = true) :
    Calls Try.prog 3 #[.slice (some ⟨bk, off, none⟩) L.length cap, .int .i64 k, .bool f] w fun e w' => e = .returned (.bool true) ∧ Below w.heap.size w w' := by
  have hx := ht k hk
  go_enter Try.func3, Try.ntmps3
  go_wp2_with (first | (go_at_call 6; refine (zz_any _ _ _ _ _ _ (by omega)).mono ?_; rintro e w' ⟨rfl, hw⟩; rw [hw]; clear hw w') | (go_at_call 7; refine (isOpen_any _ _).mono ?_; rintro e w' ⟨rfl, hw⟩; rw [hw]; clear hw w'))
  refine (clone_any bk off _ cap L _ rfl ht hb (by omega) hc).mono ?_
  rintro e w1 ⟨rfl, hT1, hb1, hs1⟩
  clear hx ht
  go_wp2_with fail
  refine (zzNested_any _ 0 _ _ L _ k f _ rfl rfl hT1 hk ho (by omega) hs1 (by omega) (by omega)).mono ?_
  rintro e w2 ⟨rfl, hb2⟩
  have hT2 := hT1.below hb2 hs1
  go_wp2_with fail
  refine (mNested_any _ 0 _ L k f _ hT2 hk ho (by omega)).mono ?_
  rintro e w3 ⟨rfl, hw⟩
  rw [hw]
  clear hw w3
  go_wp2_with fail
  go_ret
  exact ⟨rfl, hb1.trans (hb2.mono hb1.size)⟩

set_option maxHeartbeats 2000000 in
/-- At or behind the text's end. -/
theorem over_nil (k : Nat) (f : Bool) (w : World) :
    Calls Try.prog 3 #[.slice none 0 0, .int .i64 k, .bool f] w fun e w' => e = .returned (.bool true) ∧ Below w.heap.size w w' := by
  go_enter Try.func3, Try.ntmps3
  go_wp2_with (go_at_call 6; refine (zz_any _ _ _ _ _ _ (by omega)).mono ?_; rintro e w' ⟨rfl, hw⟩; rw [hw]; clear hw w')
  refine (clone_nil _ _).mono ?_
  rintro e w1 ⟨rfl, hw⟩
  rw [hw]
  clear hw w1
  go_wp2_with fail
  refine (zzNested_over _ _ _ _ f _ (by omega)).mono ?_
  rintro e w2 ⟨rfl, hb2⟩
  go_wp2_with fail
  refine (mNested_over _ _ _ _ f _ (by omega)).mono ?_
  rintro e w3 ⟨rfl, hw⟩
  rw [hw]
  clear hw w3
  go_wp2_with fail
  go_ret
  exact ⟨rfl, hb2⟩

set_option maxHeartbeats 2000000 in
theorem over_empty (x : Addr) (cap k : Nat) (f : Bool) (w : World) :
    Calls Try.prog 3 #[.slice (some x) 0 cap, .int .i64 k, .bool f] w fun e w' => e = .returned (.bool true) ∧ Below w.heap.size w w' := by
  go_enter Try.func3, Try.ntmps3
  go_wp2_with (go_at_call 6; refine (zz_any _ _ _ _ _ _ (by omega)).mono ?_; rintro e w' ⟨rfl, hw⟩; rw [hw]; clear hw w')
  refine (clone_empty _ _ _).mono ?_
  rintro e w1 ⟨rfl, hb1⟩
  go_wp2_with fail
  refine (zzNested_over _ _ _ _ f _ (by omega)).mono ?_
  rintro e w2 ⟨rfl, hb2⟩
  go_wp2_with fail
  refine (mNested_over _ _ _ _ f _ (by omega)).mono ?_
  rintro e w3 ⟨rfl, hw⟩
  rw [hw]
  clear hw w3
  go_wp2_with fail
  go_ret
  exact ⟨rfl, hb1.trans (hb2.mono hb1.size)⟩

set_option maxHeartbeats 2000000 in
theorem over_full (bk off cap : Nat) (L : List UInt8) (k : Nat) (f : Bool) (w : World) (ht : Txt w bk off L) (hb : bk < w.heap.size) (hl : L.length ≤ 1048576) (hc : L.length ≤ cap) (hk : ¬ k < L.length) :
    Calls Try.prog 3 #[.slice (some ⟨bk, off, none⟩) L.length cap, .int .i64 k, .bool f] w fun e w' => e = .returned (.bool true) ∧ Below w.heap.size w w' := by
  go_enter Try.func3, Try.ntmps3
  go_wp2_with (go_at_call 6; refine (zz_any _ _ _ _ _ _ (by omega)).mono ?_; rintro e w' ⟨rfl, hw⟩; rw [hw]; clear hw w')
  refine (clone_any bk off _ cap L _ rfl ht hb (by omega) hc).mono ?_
  rintro e w1 ⟨rfl, hT1, hb1, hs1⟩
  go_wp2_with fail
  refine (zzNested_over _ _ _ _ f _ (by omega)).mono ?_
  rintro e w2 ⟨rfl, hb2⟩
  go_wp2_with fail
  refine (mNested_over _ _ _ _ f _ (by omega)).mono ?_
  rintro e w3 ⟨rfl, hw⟩
  rw [hw]
  clear hw w3
  go_wp2_with fail
  go_ret
  exact ⟨rfl, hb1.trans (hb2.mono hb1.size)⟩

set_option maxHeartbeats 2000000 in
theorem walk (a0 : Option Addr) (len0 cap0 : Nat) (z0 : List Int) (a1 : Int) (a2 : Bool) (w : World) (w0 : IsRow .u8 w a0 len0 cap0 z0) (w1 : (Lit.int .i64 a1).wf = true) :
    Calls Try.prog 3 #[.slice a0 len0 cap0, .int .i64 a1, .bool a2] w fun e w' => e = .returned (.bool true) ∧ Below w.heap.size w w' := by
  have hlm : len0 ≤ 2 ^ 63 - 1 := by
    rcases w0 with ⟨_, h, _, _⟩ | ⟨_, _, h1, h2, _⟩
    · omega
    · unfold maxLen at h2; omega
  by_cases c0 : len0 ≤ 1048576
  · by_cases c1 : 0 ≤ a1
    · obtain ⟨k, hk⟩ : ∃ k : Nat, a1 = k := ⟨a1.toNat, by omega⟩
      subst hk
      rcases w0 with ⟨rfl, rfl, rfl, _⟩ | ⟨x, rfl, hc, hm, hz, hcell, hwf⟩
      · exact over_nil k a2 w
      · by_cases h0 : len0 = 0
        · subst h0
          exact over_empty x cap0 k a2 w
        · obtain ⟨bk, off, rfl, hcl⟩ := ints_at hcell (by omega)
          have hlen := bytesIn_length hc hz
          have hT : Txt w bk off (bytesIn z0 len0) := fun i hi => by
            rw [hcl i (by omega), bytesIn_get hc hz hwf i hi]
          have hb : bk < w.heap.size := World.block_lt_of_cell? w _ (hT 0 (by omega))
          rw [← hlen]
          rw [← hlen] at c0 hc
          generalize bytesIn z0 len0 = L at *
          by_cases hkl : k < L.length
          · by_cases ho : jOpen L[k] = true
            · exact main bk off cap0 L k a2 w hT hb c0 hc hkl ho
            · have ho' : jOpen L[k] = false := by simpa using ho
              have hx := hT k hkl
              clear ho hT hcell hwf hcl hz hlen
              go_enter Try.func3, Try.ntmps3
              go_wp2_with (first | (go_at_call 6; refine (zz_any _ _ _ _ _ _ (by omega)).mono ?_; rintro e w' ⟨rfl, rfl⟩) | (go_at_call 7; refine (isOpen_any _ _).mono ?_; rintro e w' ⟨rfl, rfl⟩))
              go_ret
              exact ⟨rfl, Below.refl _ _⟩
          · exact over_full bk off cap0 L k a2 w hT hb c0 hc hkl
    · clear w0 w1
      go_enter Try.func3, Try.ntmps3
      go_wp2_with (go_at_call 6; refine (zz_any _ _ _ _ _ _ hlm).mono ?_; rintro e w' ⟨rfl, rfl⟩)
      go_ret
      exact ⟨rfl, Below.refl _ _⟩
  · clear w0 w1
    go_enter Try.func3, Try.ntmps3
    go_wp2_with (go_at_call 6; refine (zz_any _ _ _ _ _ _ hlm).mono ?_; rintro e w' ⟨rfl, rfl⟩)
    go_ret
    exact ⟨rfl, Below.refl _ _⟩

/-! ### THE ROW's STEP: WRITTEN OUT: LEAVE IT -/
set_option maxRecDepth 100000 in
theorem lifted (os : Os) (started : os.Started) (H : Type) (enc : TypeId × Value → H) :
    ReturnsInHanded {} Try.checked os 3 .any (Rows.fnNestedMatchesRecursiveDescentSpec.pre6 enc Try.prog Try.f3 Rows.fnNestedMatchesRecursiveDescentRow.domain false) (Rows.fnNestedMatchesRecursiveDescentSpec.post enc Try.prog Try.f3 false true false false) := by
  refine returnsInHanded_of_change (C := Try.checked) own started (by kernel_rfl) Try.func3
    (ChangeSpec.witness6 (enc := enc) (C := Try.checked) false ⟨#[], #[.slice none 0 0, .int .i64 0, .bool false], []⟩ 8 (by kernel_rfl) (by kernel_rfl) (by kernel_rfl) (by kernel_rfl)) ?_
  intro W base args ds gs before hval0 hW hcnd _
  have hval : ∀ (j : Nat) t v, Try.f3.params[j]? = some t → args[j]? = some v → Value.okWide Try.prog W .any base t v := hval0
  have hW' := hW
  obtain ⟨p, q, hA0, hV, rfl, hfz, hnd⟩ := hW
  have hA : DataW.TrodAll enc Try.prog W 0 (fun _ => true) true Try.f3.params.toList args.toList ds p := hA0
  rw [Try.params3] at hA hval
  obtain ⟨v0, vs0, d0, ds0, p0, q0, hargs, rfl, rfl, h0, r0⟩ := trodAll_cons hA
  obtain ⟨v1, vs1, d1, ds1, p1, q1, rfl, rfl, rfl, h1, r1⟩ := trodAll_cons r0
  obtain ⟨v2, vs2, d2, ds2, p2, q2, rfl, rfl, rfl, h2, r2⟩ := trodAll_cons r1
  obtain ⟨rfl, rfl, rfl⟩ := trodAll_nil r2
  obtain rfl : args = #[v0, v1, v2] := by cases args; simp_all
  obtain ⟨rfl, rfl⟩ := trodVars_none hV
  obtain ⟨a0, len0, cap0, rfl⟩ := okWide_slice Try.underlying22 (hval 0 22 v0 rfl rfl)
  have k0 := h0
  have lt0 : ∀ x ∈ p0, x.block < W.heap.size := by obtain ⟨m, hm⟩ := k0; exact DataW.trod_lt m _ _ _ hm
  obtain ⟨z0, w0⟩ : ∃ zs, IsRow .u8 W a0 len0 cap0 zs := by
    obtain ⟨fuel, hf⟩ := h0
    rcases open_ints Try.underlying22 Try.underlying5 (by kernel_rfl) hf with ⟨hcs, _⟩ | ⟨x, l, c, zs, hcs, _, hl, hm, hz, _, hcell, hwz⟩
    · simp [Value.cells] at hcs
      obtain ⟨rfl, rfl, rfl⟩ := hcs
      exact ⟨[], .inl ⟨rfl, rfl, rfl, rfl⟩⟩
    · simp [Value.cells] at hcs
      obtain ⟨rfl, rfl, rfl⟩ := hcs
      exact ⟨zs, .inr ⟨_, rfl, hl, hm, by simpa using hz, hcell, hwz⟩⟩
  obtain ⟨a1, rfl, rfl, rfl, w1⟩ := open_int Try.underlying3 (hval 1 3 v1 rfl rfl) h1
  obtain ⟨a2, rfl, rfl, rfl⟩ := open_bool Try.underlying4 (hval 2 4 v2 rfl rfl) h2
  clear hA0 hval0
  refine (walk a0 len0 cap0 z0 a1 a2 W w0 w1).mono fun e W' ⟨he, bel⟩ => ?_
  subst he
  exact ⟨_, rfl, _, _, _, [], _, [], hW', trodAll_mk1 (shut_bool Try.underlying4 _), (trodAll_cons_mk (Below.trod laidOut (by kernel_rfl) (of_decide_eq_true (by kernel_rfl)) k0 bel lt0) (trodAll_cons_mk (shut_int Try.underlying3 w1) (trodAll_cons_mk (shut_bool Try.underlying4 _) trodAll_mk0))), rfl, bel.frame _, fun h => by cases h⟩

theorem over : Rows.fnNestedMatchesRecursiveDescentRow.holds Try.pinned (OpenSpec.ofChange Rows.fnNestedMatchesRecursiveDescentSpec) :=
  OpenClaim.holds_of_wide 3 Try.f3 rfl rfl rfl rfl rfl rfl rfl ⟨rfl, rfl, rfl, rfl, rfl⟩ rfl rfl rfl rfl rfl (by kernel_rfl) Try.func3 (by kernel_rfl)
    (of_decide_eq_true (by kernel_rfl)) (by unfold Func.isWrapper; first | (rw [if_pos (by decide +kernel)]; kernel_rfl) | (rw [if_neg (by decide +kernel)]; exact ⟨rfl, rfl⟩))
    (fun os started H enc _ => lifted os started H enc)

/-- ████ THE STATEMENT ████ -/
theorem proved : Rows.FnNestedMatchesRecursiveDescentSaid := over
end Go.Proofs.Qxb6606444a.fnNestedMatchesRecursiveDescent
