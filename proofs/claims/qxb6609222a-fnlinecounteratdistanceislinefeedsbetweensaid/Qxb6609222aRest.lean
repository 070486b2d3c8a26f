/-
  THE WALKS of ZZnewLineCounter, ZZlineCounterAt, zzCloneBytes, zzCountLF; what slices that came in read as.
-/
import Derived.Test.Qxb6609222aWalks
import Derived.OpenShut
set_option linter.unusedVariables false
namespace Go.Proofs.Qxb6609222a
open Go.RowKit

theorem info5 : (Try.prog.info? 5).map (fun i => (i.zero, i.size, i.bytes)) = some (some (.int .u8 0), 1, 1) := by kernel_rfl
theorem info3 : (Try.prog.info? 3).map (fun i => (i.zero, i.size, i.bytes)) = some (some (.int .i64 0), 1, 8) := by kernel_rfl

set_option maxHeartbeats 1000000 in
theorem new_any (A : Value) (L : List UInt8) (w : World) (hA : ∃ a n c, A = .slice a n c) :
    Calls Try.prog 7 #[A] w fun e w' => e = .returned (.pointer (some ⟨w.heap.size, 0, none⟩)) ∧ Lc w' w.heap.size A 0 (1 + (lf L 0 : Int)) ∧ Below w.heap.size w w' ∧ w.heap.size < w'.heap.size := by
  obtain ⟨a, n, c, rfl⟩ := hA
  go_enter Try.func7, Try.ntmps7
  go_wp2
  go_ret
  exact ⟨rfl, by rw [lf_zero]; exact heap_alloc_new w _, (Below.refl _ w).alloc (Nat.le_refl _) _, by simp⟩

set_option maxHeartbeats 400000 in
theorem zzat_any (b : Nat) (A : Value) (L : List UInt8) (p k : Nat) (m : Int) (w : World) (hm : m = k) (h : Lc w b A p (1 + (lf L p : Int))) (hD : Data w b A L) (hp : p ≤ L.length) (hk : k ≤ L.length) (hl : L.length ≤ 2 ^ 40) :
    Calls Try.prog 8 #[.pointer (some ⟨b, 0, none⟩), .int .i64 m] w fun e w' => e = .returned (.int .i64 (1 + (lf L k : Int))) ∧ Lc w' b A k (1 + (lf L k : Int)) ∧ Below b w w' := by
  subst hm
  go_enter Try.func8, Try.ntmps8
  go_wp2_with fail
  refine (at_any b A L p k _ _ rfl h hD hp hk hl).mono ?_
  rintro e w1 ⟨rfl, h1, h2⟩
  go_wp2
  go_ret
  exact ⟨rfl, h1, h2⟩

/-! ### zzCloneBytes -/
def cIs (xs : List Value) (L : List UInt8) (k : Nat) : Prop := ∀ i (h : i < L.length), i < k → xs[i]? = some (.int .u8 (L[i].toNat : Int))
theorem cIs.set {xs : List Value} {L : List UInt8} {k : Nat} (h : cIs xs L k) (hk : k < L.length) (hl : xs.length = L.length) : cIs (xs.set k (.int .u8 (L[k].toNat : Int))) L (k + 1) := by
  intro i hi hik
  rw [List.getElem?_set]
  by_cases e : k = i
  · subst e
    rw [if_pos rfl, if_pos (by omega)]
  · rw [if_neg e]
    exact h i hi (by omega)

set_option maxHeartbeats 1000000 in
theorem clone_full (bk off cap : Nat) (L : List UInt8) (w : World) (ht : Txt w bk off L) (hb : bk < w.heap.size) (hl : L.length ≤ 2 ^ 40) :
    Calls Try.prog 6 #[.slice (some ⟨bk, off, none⟩) L.length cap] w fun e w' => ∃ A, e = .returned A ∧ Data w' w'.heap.size A L ∧ Below w.heap.size w w' := by
  obtain ⟨i0, hi, hz0, hz1, hz2⟩ := info_parts info5
  have q22 : ∀ (w : World) (a : Option Addr) (n c n' c' : Nat), (binOp .eql 22 (.slice a n c) (.slice none n' c')).run Try.prog w = .ok (.bool a.isNone) w := fun w a n c n' c' => Lib.run_eql_slice_nil w _ _ a n c n' c' Try.underlying22
  go_enter Try.func6, Try.ntmps6
  go_wp2_with (at_make; refine wpList_make_full _ rfl _ _ 22 rfl w.heap.size 5 i0 (.int .u8 0) 1 Try.underlying22 hi hz0 hz1 _ _ _ _ L.length rfl rfl rfl rfl ?b2 ?b3 (Nat.le_refl _) ?_)
  case b2 => rw [hz2]; omega
  case b3 => unfold maxLen; omega
  intro w0 hown0 hgrow0
  have hown1 : ∃ xs, w0.ownsRow w.heap.size 5 1 (.slice (some ⟨w.heap.size, 0, none⟩) L.length L.length) L.length xs := ⟨_, hown0⟩
  have hbw0 : Below w.heap.size w w0 := (Below.refl _ _).grown hgrow0 (Nat.le_refl _) (fun k h => by cases h)
  clear hown0 hgrow0
  obtain ⟨xs0, hown0⟩ := hown1
  go_wp2
  go_loopw [4] (fun t wr => ∃ (k : Nat) (xs : List Value), k ≤ L.length ∧ t = .int .i64 k ∧ wr.ownsRow w.heap.size 5 1 (.slice (some ⟨w.heap.size, 0, none⟩) L.length L.length) L.length xs ∧ Below w.heap.size w wr ∧ cIs xs L k) (fun t _ => L.length - (intOf t).toNat)
  case atStart => exact ⟨0, xs0, by omega, rfl, hown0, hbw0, fun i _ hi => absurd hi (by omega)⟩
  case round =>
    clear hown0 hbw0
    obtain ⟨k, xs, hk, rfl, hown, hbw, hC⟩ := hrel
    have hxl : xs.length = L.length := by have := hown.1; omega
    by_cases hlt : k < L.length
    · have hx : wr.cell? ⟨bk, off + k, none⟩ = some (.int .u8 (L[k].toNat : Int)) := (hbw.cell (p := ⟨bk, off + k, none⟩) hb).trans (ht k hlt)
      have hfz := hown.frozenAt k
      have hce : wr.cell? ⟨w.heap.size, k, none⟩ = some (xs[k]'(by omega)) := by rw [hown.cellAt k (by omega), List.getElem?_eq_getElem (by omega)]
      have hst := hown.stored k (.int .u8 (L[k].toNat : Int))
      have hC2 := hC.set hlt hxl
      clear hC
      go_wp2_with fail
      go_roundw
      case rel => exact ⟨k + 1, _, by omega, by go_num, hst.1, hbw.grown hst.2 hbw.size (fun k h => by simp at h; omega), hC2⟩
      case measure => simp [intOf]; omega
    · have hT : Txt wr w.heap.size 0 L := fun i hi => by
        rw [Nat.zero_add, hown.cellAt i (by omega)]
        exact hC i hi (by omega)
      have hsz : w.heap.size < wr.heap.size := (hown.lt w.heap.size rfl).2
      clear hown hC
      go_wp2_with fail
      go_ret
      exact ⟨_, rfl, .inr ⟨w.heap.size, 0, L.length, rfl, by omega, by omega, hsz, hT⟩, hbw⟩

set_option maxHeartbeats 1000000 in
theorem clone_nil (c : Nat) (w : World) :
    Calls Try.prog 6 #[.slice none 0 c] w fun e w' => ∃ A, e = .returned A ∧ Data w' w'.heap.size A [] ∧ Below w.heap.size w w' := by
  have q22 : ∀ (w : World) (a : Option Addr) (n c n' c' : Nat), (binOp .eql 22 (.slice a n c) (.slice none n' c')).run Try.prog w = .ok (.bool a.isNone) w := fun w a n c n' c' => Lib.run_eql_slice_nil w _ _ a n c n' c' Try.underlying22
  go_enter Try.func6, Try.ntmps6
  go_wp2
  go_ret
  exact ⟨_, rfl, .inl ⟨rfl, rfl⟩, Below.refl _ _⟩

set_option maxHeartbeats 1000000 in
theorem clone_empty (x : Addr) (c : Nat) (w : World) :
    Calls Try.prog 6 #[.slice (some x) 0 c] w fun e w' => ∃ A, e = .returned A ∧ Data w' w'.heap.size A [] ∧ Below w.heap.size w w' := by
  obtain ⟨i0, hi, hz0, hz1, hz2⟩ := info_parts info5
  have q22 : ∀ (w : World) (a : Option Addr) (n c n' c' : Nat), (binOp .eql 22 (.slice a n c) (.slice none n' c')).run Try.prog w = .ok (.bool a.isNone) w := fun w a n c n' c' => Lib.run_eql_slice_nil w _ _ a n c n' c' Try.underlying22
  go_enter Try.func6, Try.ntmps6
  go_wp2_with (at_make; refine wpList_make_full _ rfl _ _ 22 rfl w.heap.size 5 i0 (.int .u8 0) 1 Try.underlying22 hi hz0 hz1 _ _ _ _ 0 rfl rfl rfl rfl ?b2 ?b3 (Nat.le_refl _) ?_)
  case b2 => omega
  case b3 => unfold maxLen; omega
  intro w0 hown0 hgrow0
  have hbw0 : Below w.heap.size w w0 := (Below.refl _ _).grown hgrow0 (Nat.le_refl _) (fun k h => by cases h)
  have hsz : w.heap.size < w0.heap.size := (hown0.lt w.heap.size rfl).2
  clear hown0 hgrow0
  go_wp2
  refine wp_loop_rounds 1 ?_
  rw [rounds_succ]
  go_wp2
  go_ret
  exact ⟨_, rfl, .inr ⟨w.heap.size, 0, 0, rfl, Nat.le_refl _, by omega, hsz, fun i hi => absurd hi (by simp)⟩, hbw0⟩

/-! ### What a slice of bytes that came in holds -/
def bytesIn (zs : List Int) (len : Nat) : List UInt8 := (zs.take len).map fun n => UInt8.ofNat n.toNat
theorem bytesIn_length {zs : List Int} {len cap : Nat} (h1 : len ≤ cap) (h2 : zs.length = cap) : (bytesIn zs len).length = len := by
  simp [bytesIn]; omega
theorem bytesIn_get {zs : List Int} {len cap : Nat} (h1 : len ≤ cap) (h2 : zs.length = cap) (hw : ∀ n ∈ zs, (Lit.int .u8 n).wf = true) (i : Nat) (hi : i < (bytesIn zs len).length) : zs.getD i 0 = ((bytesIn zs len)[i].toNat : Int) := by
  have hl := bytesIn_length h1 h2
  have hi2 : i < zs.length := by omega
  have hb := bounds_u8 (hw zs[i] (List.getElem_mem hi2))
  rw [List.getD_eq_getElem?_getD, List.getElem?_eq_getElem hi2]
  simp only [bytesIn, List.getElem_map, List.getElem_take, Option.getD_some]
  rw [UInt8.toNat_ofNat']
  omega

/-! ### zzCountLF -/
theorem eqb10 (c : UInt8) : (c == 10) = ((c.toNat : Int) == 10) := by
  rw [Bool.eq_iff_iff, beq_iff_eq, beq_iff_eq, ← UInt8.toNat_inj]
  have : (10 : UInt8).toNat = 10 := rfl
  rw [this]; omega
theorem lf_next {L : List UInt8} {k : Nat} (h : k < L.length) : lf L (k + 1) = lf L k + if ((L[k].toNat : Int) == 10) = true then 1 else 0 := by
  unfold lf
  rw [List.take_succ_eq_append_getElem h, List.count_append, List.count_singleton, eqb10]
theorem lf_mono (L : List UInt8) (p o : Nat) (h : p ≤ o) : lf L p ≤ lf L o := by
  have := lf_split L p o h
  omega

set_option maxHeartbeats 1000000 in
/-- Over data that is not nil. -/
theorem countLF_full (g o cap : Nat) (L : List UInt8) (lo hi : Nat) (w : World) (ht : Txt w g o L) (hlo : lo ≤ hi) (hhi : hi ≤ L.length) (hl : L.length ≤ 2 ^ 40) :
    Calls Try.prog 10 #[.slice (some ⟨g, o, none⟩) L.length cap, .int .i64 lo, .int .i64 hi] w fun e w' => e = .returned (.int .i64 ((lf L hi : Int) - lf L lo)) ∧ w' = w := by
  go_enter Try.func10, Try.ntmps10
  go_wp2
  go_loop [7, 8] (fun n t => ∃ (k m : Nat), lo ≤ k ∧ k ≤ hi ∧ t = .int .i64 k ∧ n = .int .i64 m ∧ lf L lo + m = lf L k) (fun _ t => hi - (intOf t).toNat)
  case atStart => exact ⟨lo, 0, by omega, by omega, rfl, rfl, by omega⟩
  case round =>
    obtain ⟨k, m, hk1, hk2, rfl, rfl, hm⟩ := hrel
    have hle := lf_le L k
    by_cases hlt : k < hi
    · have hkl : k < L.length := by omega
      have hx := ht k hkl
      have hnx := lf_next hkl
      by_cases c10 : ((L[k].toNat : Int) == 10) = true
      · rw [if_pos c10] at hnx
        have HN := hid hnx
        have HM := hid hm
        have hml : m ≤ L.length := by omega
        clear hnx hm
        go_wp2
        go_round
        case rel => exact ⟨k + 1, m + 1, by omega, by omega, by go_num, by go_num, by have h1 := HN.out; have h2 := HM.out; omega⟩
        case measure => simp [intOf]; omega
      · have n10 : ((L[k].toNat : Int) == 10) = false := by simpa using c10
        rw [if_neg c10] at hnx
        have HN := hid hnx
        have HM := hid hm
        have hml : m ≤ L.length := by omega
        clear hnx hm c10
        go_wp2
        go_round
        case rel => exact ⟨k + 1, m, by omega, by omega, by go_num, by go_num, by have h1 := HN.out; have h2 := HM.out; omega⟩
        case measure => simp [intOf]; omega
    · have HM := hid hm
      clear hm
      go_wp2
      go_ret
      refine ⟨?_, rfl⟩
      have e : (m : Int) = (lf L hi : Int) - lf L lo := by
        have h1 := HM.out
        obtain rfl : k = hi := by omega
        omega
      show Ending.returned (.int .i64 (m : Int)) = _
      rw [e]

set_option maxHeartbeats 1000000 in
theorem countLF_nil (lo hi : Nat) (w : World) (hhi : hi = 0) (hlo : lo = 0) :
    Calls Try.prog 10 #[.slice none 0 0, .int .i64 lo, .int .i64 hi] w fun e w' => e = .returned (.int .i64 0) ∧ w' = w := by
  subst hhi hlo
  go_enter Try.func10, Try.ntmps10
  go_wp2
  refine wp_loop_rounds 1 ?_
  rw [rounds_succ]
  go_wp2
  go_ret
  exact ⟨rfl, rfl⟩

theorem countLF_any (A : Value) (B : Nat) (L : List UInt8) (lo hi : Nat) (w : World) (hD : Data w B A L) (hlo : lo ≤ hi) (hhi : hi ≤ L.length) (hl : L.length ≤ 2 ^ 40) :
    Calls Try.prog 10 #[A, .int .i64 lo, .int .i64 hi] w fun e w' => e = .returned (.int .i64 ((lf L hi : Int) - lf L lo)) ∧ w' = w := by
  rcases hD with ⟨rfl, rfl⟩ | ⟨g, o, cap, rfl, h2, h3, h4, h5⟩
  · have h1 : hi = 0 := by simpa using hhi
    have h2 : lo = 0 := by omega
    have h := countLF_nil lo hi w h1 h2
    subst h1 h2
    simpa using h
  · exact countLF_full g o cap L lo hi w h5 hlo hhi hl
theorem Data.opened {w : World} {B : Nat} {A : Value} {L : List UInt8} (h : Data w B A L) : ∃ a c g o, A = .slice a L.length c ∧
    (∀ (i : Nat) (W : World), i < L.length → (Instr.indexAt 22 (.slice a L.length c) (.int .i64 i)).run Try.prog W = .ok (.pointer (some ⟨g, o + i, none⟩)) W) ∧ Txt w g o L ∧ (0 < L.length → g < B) := by
  rcases h with ⟨rfl, rfl⟩ | ⟨g, o, cap, rfl, h2, h3, h4, h5⟩
  · exact ⟨none, 0, 0, 0, rfl, fun i W hi => absurd hi (by simp), fun i hi => absurd hi (by simp), fun h => absurd h (by simp)⟩
  · refine ⟨some ⟨g, o, none⟩, cap, g, o, rfl, fun i W hi => ?_, h5, fun _ => h4⟩
    have i1 : (0 : Int) ≤ (i : Int) := by omega
    have i2 : (i : Int) < (L.length : Int) := by omega
    go_simp
end Go.Proofs.Qxb6609222a
