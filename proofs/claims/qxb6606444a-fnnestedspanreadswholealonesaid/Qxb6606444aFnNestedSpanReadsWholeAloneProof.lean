/-
  THE SHELL OF A PROOF OF 'Rows.FnNestedSpanReadsWholeAloneSaid' ('example.com/loomwork/loomwork/zzlaws_internal_jsonobject_b1.FnNestedSpanReadsWholeAlone'), WRITTEN BY PROGRAM (proof-skeleton.mjs, third state) off the guide's own print for that function. Not trusted: Lean checks it.
  The walk is ours. All else is THE GUIDE's OWN WAY (howto/template/XProofs.lean; Derived/Test/ChunkProofs.lean for 'Below') at this function's number and types: leave it.
-/
import Derived.Test.Qxb6606444aRows
import Derived.Test.Qxb6606444aClone
import Derived.WalkKit
import Derived.ProofKit
import Derived.OpenShut
import Derived.ShutString
import Derived.ChangeOld
import Derived.Below
namespace Go.Proofs.Qxb6606444a.fnNestedSpanReadsWholeAlone
open Go.ChangeShapes Go.WideShapes Go.ChangeAt Go.RowKit
open Go.ChangeMaps (open_string shut_string)
set_option linter.unusedVariables false

theorem own : ownKnob Try.prog.godebug = none := by kernel_rfl
theorem laidOut : laidOutB Try.prog = true := by kernel_rfl

/-- WHAT THE WALK IS TOLD OF A SLICE OF INTEGERS THAT CAME IN: it is nil; or it leads to a row of 'cap' cells, the numbers 'zs' (the first 'len' are its elements, the rest its spare room), each fitting its kind. -/
def IsRow (k : IntKind) (w : World) (a : Option Addr) (len cap : Nat) (zs : List Int) : Prop :=
  (a = none ∧ len = 0 ∧ cap = 0 ∧ zs = []) ∨
  ∃ x, a = some x ∧ len ≤ cap ∧ cap ≤ maxLen ∧ zs.length = cap ∧ (∀ i, i < zs.length → w.cell? (x.add i) = some (.int k (zs.getD i 0))) ∧ ∀ n ∈ zs, (Lit.int k n).wf = true

/-! ### STEP 1: THE WALK -/
open Go.Proofs.Qxb6606444a.Plain

/-- THE PLAIN LAW: the span that nested passes over reads whole alone. -/
theorem span_law (L : List UInt8) (k : Nat) (hk : k < L.length) (ho : jOpen L[k] = true) (hb : nBad L k false = false) :
    ∃ z : Nat, nEnd L k false = z ∧ k + 2 ≤ z ∧ z ≤ L.length ∧ (∃ h : z - 1 < L.length, jClose L[z - 1] = true) ∧ ((L.drop k).take (z - k)).length = z - k ∧ nEnd ((L.drop k).take (z - k)) 0 false = ((z - k : Nat) : Int) ∧ nBad ((L.drop k).take (z - k)) 0 false = false ∧ ∃ h : 0 < ((L.drop k).take (z - k)).length, jOpen ((L.drop k).take (z - k))[0] = true := by
  unfold nBad at hb
  cases hg : grp (L.drop k) 0 false false with
  | none => rw [hg] at hb; cases hb
  | some p =>
    obtain ⟨r, s⟩ := p
    obtain ⟨u, x, h1, h2, h3⟩ := grp_local _ _ _ _ _ hg
    have hlen := congrArg List.length h1
    simp only [List.length_drop, List.length_append, List.length_cons] at hlen
    have hd := drop_get L k hk
    have hu : u ≠ [] := by
      intro e
      rw [e, List.nil_append, hd] at h1
      simp only [List.cons.injEq] at h1
      rw [← h1.1] at h2
      have : ∀ c : UInt8, jOpen c = true → jClose c = true → False := by
        intro c a1 a2
        unfold jOpen at a1
        unfold jClose at a2
        simp only [Bool.or_eq_true, beq_iff_eq] at a1 a2
        rcases a1 with a | a <;> rw [a] at a2 <;> exact absurd a2 (by decide)
      exact this _ ho h2
    have hul : 1 ≤ u.length := by
      cases u with
      | nil => exact absurd rfl hu
      | cons a u => simp
    have ht : (L.drop k).take (u.length + 1) = u ++ [x] := by
      rw [h1, List.take_append, List.take_of_length_le (by omega)]
      simp
    have hz : k + u.length + 1 - k = u.length + 1 := by omega
    have hgs := h3 []
    refine ⟨k + u.length + 1, ?_, by omega, by omega, ⟨by omega, ?_⟩, ?_⟩
    · unfold nEnd; rw [hg]; simp only; omega
    · have hget : (L.drop k)[u.length]? = some x := by rw [h1]; simp
      rw [List.getElem?_drop] at hget
      have h4 : L[k + u.length + 1 - 1]? = some x := by rw [show k + u.length + 1 - 1 = k + u.length by omega]; exact hget
      have h5 := List.getElem?_eq_some_iff.1 h4
      obtain ⟨h6, h7⟩ := h5
      rw [h7]; exact h2
    · rw [hz, ht]
      refine ⟨by simp, ?_, ?_, by simp, ?_⟩
      · unfold nEnd; rw [List.drop_zero, hgs]; simp
      · unfold nBad; rw [List.drop_zero, hgs]
      · have h8 : (u ++ [x])[0]? = some L[k] := by
          rw [← ht, List.getElem?_take, if_pos (by omega), List.getElem?_drop, Nat.add_zero, List.getElem?_eq_getElem hk]
        obtain ⟨h9, h10⟩ := List.getElem?_eq_some_iff.1 h8
        rw [h10]; exact ho

set_option maxHeartbeats 400000 in
theorem zz_any (a : Option Addr) (n c : Nat) (i : Int) (w : World) (hn : n ≤ 2 ^ 63 - 1) :
    Calls Try.prog 11 #[.slice a n c, .int .i64 i] w fun e w' => e = .returned (.bool (decide (n ≤ 1048576))) ∧ w' = w := by
  by_cases h1 : n ≤ 1048576
  all_goals
    go_enter Try.func11, Try.ntmps11
    go_wp2
    go_ret
    exact ⟨by simp; omega, rfl⟩

set_option maxHeartbeats 2000000 in
theorem main (bk off cap : Nat) (L : List UInt8) (k : Nat) (w : World) (ht : Txt w bk off L) (hb : bk < w.heap.size) (hl : L.length ≤ 1048576) (hc : L.length ≤ cap) (hk : k < L.length) (ho : jOpen L[k] = true) :
    Calls Try.prog 4 #[.slice (some ⟨bk, off, none⟩) L.length cap, .int .i64 k] w fun e w' => e = .returned (.bool true) ∧ Below w.heap.size w w' := by
  have hx := ht k hk
  go_enter Try.func4, Try.ntmps4
  go_wp2_with (first | (go_at_call 11; refine (zz_any _ _ _ _ _ (by omega)).mono ?_; rintro e w' ⟨rfl, hw⟩; rw [hw]; clear hw w') | (go_at_call 7; refine (isOpen_any _ _).mono ?_; rintro e w' ⟨rfl, hw⟩; rw [hw]; clear hw w'))
  refine (clone_any bk off _ cap L _ rfl ht hb (by omega) hc).mono ?_
  rintro e w1 ⟨rfl, hT1, hb1, hs1⟩
  clear hx ht
  go_wp2_with fail
  refine (zzNested_any _ 0 _ _ L _ k false _ rfl rfl hT1 hk ho (by omega) hs1 (by omega) (by omega)).mono ?_
  rintro e w2 ⟨rfl, hb2⟩
  by_cases hbad : nBad L k false = true
  · go_wp2_with fail
    go_ret
    exact ⟨rfl, hb1.trans (hb2.mono hb1.size)⟩
  · have hbad' : nBad L k false = false := by simpa using hbad
    clear hbad
    obtain ⟨z, e1, z1, z2, ⟨z3, z4⟩, z5, z6, z7, z8, z9⟩ := span_law L k hk ho hbad'
    have hT2 := hT1.below hb2 hs1
    have hx2 := hT2 (z - 1) z3
    rw [Nat.zero_add] at hx2
    have hx3 : w2.cell? ⟨w.heap.size, ((z : Int) - 1).toNat, none⟩ = some (.int .u8 (L[z - 1].toNat : Int)) := by
      rw [show ((z : Int) - 1).toNat = z - 1 by omega]; exact hx2
    have hnk : ¬ L.length = k := by omega
    have HZ := hid (And.intro z6 z7)
    clear z6 z7
    have H9 := hid z9
    clear z9
    have hT3 : Txt w2 w.heap.size k ((L.drop k).take (z - k)) := fun i hi => by
      have hi2 : k + i < L.length := by omega
      have := hT2 (k + i) hi2
      rw [Nat.zero_add] at this
      rw [this]
      simp
    go_wp2_with (go_at_call 12; refine (isClose_any _ _).mono ?_; rintro e w' ⟨rfl, hw⟩; rw [hw]; clear hw w')
    refine (zzNested_any _ k _ _ ((L.drop k).take (z - k)) _ 0 false _ z5.symm rfl hT3 z8 H9.out (by omega) (by have := hb2.size; omega) (by omega) (by omega)).mono ?_
    rintro e w3 ⟨rfl, hb3⟩
    rw [HZ.out.1, HZ.out.2]
    go_wp2_with fail
    go_ret
    exact ⟨rfl, (hb1.trans (hb2.mono hb1.size)).trans (hb3.mono (Nat.le_trans hb1.size hb2.size))⟩

set_option maxHeartbeats 2000000 in
theorem walk (a0 : Option Addr) (len0 cap0 : Nat) (z0 : List Int) (a1 : Int) (w : World) (w0 : IsRow .u8 w a0 len0 cap0 z0) (w1 : (Lit.int .i64 a1).wf = true) :
    Calls Try.prog 4 #[.slice a0 len0 cap0, .int .i64 a1] w fun e w' => e = .returned (.bool true) ∧ Below w.heap.size w w' := by
  have hlm : len0 ≤ 2 ^ 63 - 1 := by
    rcases w0 with ⟨_, h, _, _⟩ | ⟨_, _, h1, h2, _⟩
    · omega
    · unfold maxLen at h2; omega
  by_cases c0 : len0 ≤ 1048576
  · by_cases c1 : 0 ≤ a1
    · obtain ⟨k, hk⟩ : ∃ k : Nat, a1 = k := ⟨a1.toNat, by omega⟩
      subst hk
      by_cases c2 : k < len0
      · rcases w0 with ⟨_, h, _, _⟩ | ⟨x, rfl, hc, hm, hz, hcell, hwf⟩
        · omega
        · obtain ⟨bk, off, rfl, hcl⟩ := ints_at hcell (by omega)
          have hlen := bytesIn_length hc hz
          have hT : Txt w bk off (bytesIn z0 len0) := fun i hi => by
            rw [hcl i (by omega), bytesIn_get hc hz hwf i hi]
          have hkl : k < (bytesIn z0 len0).length := by omega
          have hb : bk < w.heap.size := World.block_lt_of_cell? w _ (hT k hkl)
          rw [← hlen]
          rw [← hlen] at c0 hc
          generalize bytesIn z0 len0 = L at *
          by_cases ho : jOpen L[k] = true
          · exact main bk off cap0 L k w hT hb c0 hc hkl ho
          · have ho' : jOpen L[k] = false := by simpa using ho
            have hx := hT k hkl
            clear ho hT hcell hwf hcl hz hlen
            go_enter Try.func4, Try.ntmps4
            go_wp2_with (first | (go_at_call 11; refine (zz_any _ _ _ _ _ (by omega)).mono ?_; rintro e w' ⟨rfl, rfl⟩) | (go_at_call 7; refine (isOpen_any _ _).mono ?_; rintro e w' ⟨rfl, rfl⟩))
            go_ret
            exact ⟨rfl, Below.refl _ _⟩
      · clear w0 w1
        go_enter Try.func4, Try.ntmps4
        go_wp2_with (go_at_call 11; refine (zz_any _ _ _ _ _ hlm).mono ?_; rintro e w' ⟨rfl, rfl⟩)
        go_ret
        exact ⟨rfl, Below.refl _ _⟩
    · clear w0 w1
      go_enter Try.func4, Try.ntmps4
      go_wp2_with (go_at_call 11; refine (zz_any _ _ _ _ _ hlm).mono ?_; rintro e w' ⟨rfl, rfl⟩)
      go_ret
      exact ⟨rfl, Below.refl _ _⟩
  · clear w0 w1
    go_enter Try.func4, Try.ntmps4
    go_wp2_with (go_at_call 11; refine (zz_any _ _ _ _ _ hlm).mono ?_; rintro e w' ⟨rfl, rfl⟩)
    go_ret
    exact ⟨rfl, Below.refl _ _⟩

/-! ### THE ROW's STEP: WRITTEN OUT: LEAVE IT -/
set_option maxRecDepth 100000 in
theorem lifted (os : Os) (started : os.Started) (H : Type) (enc : TypeId × Value → H) :
    ReturnsInHanded {} Try.checked os 4 .any (Rows.fnNestedSpanReadsWholeAloneSpec.pre6 enc Try.prog Try.f4 Rows.fnNestedSpanReadsWholeAloneRow.domain false) (Rows.fnNestedSpanReadsWholeAloneSpec.post enc Try.prog Try.f4 false true false false) := by
  refine returnsInHanded_of_change (C := Try.checked) own started (by kernel_rfl) Try.func4
    (ChangeSpec.witness6 (enc := enc) (C := Try.checked) false ⟨#[], #[.slice none 0 0, .int .i64 0], []⟩ 8 (by kernel_rfl) (by kernel_rfl) (by kernel_rfl) (by kernel_rfl)) ?_
  intro W base args ds gs before hval0 hW hcnd _
  have hval : ∀ (j : Nat) t v, Try.f4.params[j]? = some t → args[j]? = some v → Value.okWide Try.prog W .any base t v := hval0
  have hW' := hW
  obtain ⟨p, q, hA0, hV, rfl, hfz, hnd⟩ := hW
  have hA : DataW.TrodAll enc Try.prog W 0 (fun _ => true) true Try.f4.params.toList args.toList ds p := hA0
  rw [Try.params4] at hA hval
  obtain ⟨v0, vs0, d0, ds0, p0, q0, hargs, rfl, rfl, h0, r0⟩ := trodAll_cons hA
  obtain ⟨v1, vs1, d1, ds1, p1, q1, rfl, rfl, rfl, h1, r1⟩ := trodAll_cons r0
  obtain ⟨rfl, rfl, rfl⟩ := trodAll_nil r1
  obtain rfl : args = #[v0, v1] := by cases args; simp_all
  obtain ⟨rfl, rfl⟩ := trodVars_none hV
  obtain ⟨a0, len0, cap0, rfl⟩ := okWide_slice Try.underlying22 (hval 0 22 v0 rfl rfl)
  have k0 := h0
  have lt0 : ∀ x ∈ p0, x.block < W.heap.size := by obtain ⟨m, hm⟩ := k0; exact DataW.trod_lt m _ _ _ hm
  obtain ⟨z0, w0⟩ : ∃ zs, IsRow .u8 W a0 len0 cap0 zs := by
    obtain ⟨fuel, hf⟩ := h0
    rcases open_ints Try.underlying22 Try.underlying5 (by kernel_rfl) hf with ⟨hcs, _⟩ | ⟨x, l, c, zs, hcs, _, hl, hm, hz, _, hcell, hwz⟩
    · simp [Value.cells] at hcs
      obtain ⟨rfl, rfl, rfl⟩ := hcs
      exact ⟨[], .inl ⟨rfl, rfl, rfl, rfl⟩⟩
    · simp [Value.cells] at hcs
      obtain ⟨rfl, rfl, rfl⟩ := hcs
      exact ⟨zs, .inr ⟨_, rfl, hl, hm, by simpa using hz, hcell, hwz⟩⟩
  obtain ⟨a1, rfl, rfl, rfl, w1⟩ := open_int Try.underlying3 (hval 1 3 v1 rfl rfl) h1
  clear hA0 hval0
  refine (walk a0 len0 cap0 z0 a1 W w0 w1).mono fun e W' ⟨he, bel⟩ => ?_
  subst he
  exact ⟨_, rfl, _, _, _, [], _, [], hW', trodAll_mk1 (shut_bool Try.underlying4 _), (trodAll_cons_mk (Below.trod laidOut (by kernel_rfl) (of_decide_eq_true (by kernel_rfl)) k0 bel lt0) (trodAll_cons_mk (shut_int Try.underlying3 w1) trodAll_mk0)), rfl, bel.frame _, fun h => by cases h⟩

theorem over : Rows.fnNestedSpanReadsWholeAloneRow.holds Try.pinned (OpenSpec.ofChange Rows.fnNestedSpanReadsWholeAloneSpec) :=
  OpenClaim.holds_of_wide 4 Try.f4 rfl rfl rfl rfl rfl rfl rfl ⟨rfl, rfl, rfl, rfl, rfl⟩ rfl rfl rfl rfl rfl (by kernel_rfl) Try.func4 (by kernel_rfl)
    (of_decide_eq_true (by kernel_rfl)) (by unfold Func.isWrapper; first | (rw [if_pos (by decide +kernel)]; kernel_rfl) | (rw [if_neg (by decide +kernel)]; exact ⟨rfl, rfl⟩))
    (fun os started H enc _ => lifted os started H enc)

/-- ████ THE STATEMENT ████ -/
theorem proved : Rows.FnNestedSpanReadsWholeAloneSaid := over
end Go.Proofs.Qxb6606444a.fnNestedSpanReadsWholeAlone
