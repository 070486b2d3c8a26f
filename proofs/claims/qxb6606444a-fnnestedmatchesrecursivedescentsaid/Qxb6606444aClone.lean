/-
  THE WALKS of cloneBytesJB1, isOpenJB1, isCloseJB1; what a slice of bytes that came in reads as.
-/
import Derived.Test.Qxb6606444aNested
import Derived.OpenShut
set_option linter.unusedVariables false
namespace Go.Proofs.Qxb6606444a
open Go.RowKit Plain

theorem info5 : (Try.prog.info? 5).map (fun i => (i.zero, i.size, i.bytes)) = some (some (.int .u8 0), 1, 1) := by kernel_rfl

/-- The first k cells of xs are the first k bytes of L. -/
def cIs (xs : List Value) (L : List UInt8) (k : Nat) : Prop := ∀ i (h : i < L.length), i < k → xs[i]? = some (.int .u8 (L[i].toNat : Int))
theorem cIs.set {xs : List Value} {L : List UInt8} {k : Nat} (h : cIs xs L k) (hk : k < L.length) (hl : xs.length = L.length) : cIs (xs.set k (.int .u8 (L[k].toNat : Int))) L (k + 1) := by
  intro i hi hik
  rw [List.getElem?_set]
  by_cases e : k = i
  · subst e
    rw [if_pos rfl, if_pos (by omega)]
  · rw [if_neg e]
    exact h i hi (by omega)

set_option maxHeartbeats 1000000 in
theorem clone_any (bk off n cap : Nat) (L : List UInt8) (w : World) (hn : n = L.length) (ht : Txt w bk off L) (hb : bk < w.heap.size) (hl : L.length ≤ 2 ^ 40) (hc : n ≤ cap) :
    Calls Try.prog 8 #[.slice (some ⟨bk, off, none⟩) n cap] w fun e w' => e = .returned (.slice (some ⟨w.heap.size, 0, none⟩) n n) ∧ Txt w' w.heap.size 0 L ∧ Below w.heap.size w w' ∧ w.heap.size < w'.heap.size := by
  subst hn
  obtain ⟨i0, hi, hz0, hz1, hz2⟩ := info_parts info5
  have q22 : ∀ (w : World) (a : Option Addr) (n c n' c' : Nat), (binOp .eql 22 (.slice a n c) (.slice none n' c')).run Try.prog w = .ok (.bool a.isNone) w := fun w a n c n' c' => Lib.run_eql_slice_nil w _ _ a n c n' c' Try.underlying22
  go_enter Try.func8, Try.ntmps8
  go_wp2_with (at_make; refine wpList_make_full _ rfl _ _ 22 rfl w.heap.size 5 i0 (.int .u8 0) 1 Try.underlying22 hi hz0 hz1 _ _ _ _ L.length rfl rfl rfl rfl ?b2 ?b3 (Nat.le_refl _) ?_)
  case b2 => rw [hz2]; omega
  case b3 => unfold maxLen; omega
  intro w0 hown0 hgrow0
  have hown1 : ∃ xs, w0.ownsRow w.heap.size 5 1 (.slice (some ⟨w.heap.size, 0, none⟩) L.length L.length) L.length xs := ⟨_, hown0⟩
  have hbw0 : Below w.heap.size w w0 := (Below.refl _ _).grown hgrow0 (Nat.le_refl _) (fun k h => by cases h)
  clear hown0 hgrow0
  obtain ⟨xs0, hown0⟩ := hown1
  go_wp2
  go_loopw [4] (fun t wr => ∃ (k : Nat) (xs : List Value), k ≤ L.length ∧ t = .int .i64 k ∧ wr.ownsRow w.heap.size 5 1 (.slice (some ⟨w.heap.size, 0, none⟩) L.length L.length) L.length xs ∧ Below w.heap.size w wr ∧ cIs xs L k) (fun t _ => L.length - (intOf t).toNat)
  case atStart => exact ⟨0, xs0, by omega, rfl, hown0, hbw0, fun i _ hi => absurd hi (by omega)⟩
  case round =>
    clear hown0 hbw0
    obtain ⟨k, xs, hk, rfl, hown, hbw, hC⟩ := hrel
    have hxl : xs.length = L.length := by have := hown.1; omega
    by_cases hlt : k < L.length
    · have hx : wr.cell? ⟨bk, off + k, none⟩ = some (.int .u8 (L[k].toNat : Int)) := (hbw.cell (p := ⟨bk, off + k, none⟩) hb).trans (ht k hlt)
      have hfz := hown.frozenAt k
      have hce : wr.cell? ⟨w.heap.size, k, none⟩ = some (xs[k]'(by omega)) := by rw [hown.cellAt k (by omega), List.getElem?_eq_getElem (by omega)]
      have hst := hown.stored k (.int .u8 (L[k].toNat : Int))
      have hC2 := hC.set hlt hxl
      clear hC
      go_wp2_with fail
      go_roundw
      case rel => exact ⟨k + 1, _, by omega, by go_num, hst.1, hbw.grown hst.2 hbw.size (fun k h => by simp at h; omega), hC2⟩
      case measure => simp [intOf]; omega
    · have hT : Txt wr w.heap.size 0 L := fun i hi => by
        rw [Nat.zero_add, hown.cellAt i (by omega)]
        exact hC i hi (by omega)
      have hsz : w.heap.size < wr.heap.size := (hown.lt w.heap.size rfl).2
      clear hown hC
      go_wp2_with fail
      go_ret
      exact ⟨rfl, hT, hbw, hsz⟩

set_option maxHeartbeats 1000000 in
theorem clone_nil (c : Nat) (w : World) :
    Calls Try.prog 8 #[.slice none 0 c] w fun e w' => e = .returned (.slice none 0 0) ∧ w' = w := by
  have q22 : ∀ (w : World) (a : Option Addr) (n c n' c' : Nat), (binOp .eql 22 (.slice a n c) (.slice none n' c')).run Try.prog w = .ok (.bool a.isNone) w := fun w a n c n' c' => Lib.run_eql_slice_nil w _ _ a n c n' c' Try.underlying22
  go_enter Try.func8, Try.ntmps8
  go_wp2
  go_ret
  exact ⟨rfl, rfl⟩

set_option maxHeartbeats 1000000 in
theorem clone_empty (x : Addr) (c : Nat) (w : World) :
    Calls Try.prog 8 #[.slice (some x) 0 c] w fun e w' => e = .returned (.slice (some ⟨w.heap.size, 0, none⟩) 0 0) ∧ Below w.heap.size w w' := by
  obtain ⟨i0, hi, hz0, hz1, hz2⟩ := info_parts info5
  have q22 : ∀ (w : World) (a : Option Addr) (n c n' c' : Nat), (binOp .eql 22 (.slice a n c) (.slice none n' c')).run Try.prog w = .ok (.bool a.isNone) w := fun w a n c n' c' => Lib.run_eql_slice_nil w _ _ a n c n' c' Try.underlying22
  go_enter Try.func8, Try.ntmps8
  go_wp2_with (at_make; refine wpList_make_full _ rfl _ _ 22 rfl w.heap.size 5 i0 (.int .u8 0) 1 Try.underlying22 hi hz0 hz1 _ _ _ _ 0 rfl rfl rfl rfl ?b2 ?b3 (Nat.le_refl _) ?_)
  case b2 => omega
  case b3 => unfold maxLen; omega
  intro w0 hown0 hgrow0
  have hbw0 : Below w.heap.size w w0 := (Below.refl _ _).grown hgrow0 (Nat.le_refl _) (fun k h => by cases h)
  clear hown0 hgrow0
  go_wp2
  refine wp_loop_rounds 1 ?_
  rw [rounds_succ]
  go_wp2
  go_ret
  exact ⟨rfl, hbw0⟩

set_option maxHeartbeats 400000 in
theorem isOpen_any (c : UInt8) (w : World) :
    Calls Try.prog 7 #[.int .u8 c.toNat] w fun e w' => e = .returned (.bool (jOpen c)) ∧ w' = w := by
  rw [jOpen_eq]
  generalize (c.toNat : Int) = n
  go_enter Try.func7, Try.ntmps7
  go_wp2
  all_goals (go_ret; refine ⟨?_, rfl⟩; simp [*])

set_option maxHeartbeats 400000 in
theorem isClose_any (c : UInt8) (w : World) :
    Calls Try.prog 12 #[.int .u8 c.toNat] w fun e w' => e = .returned (.bool (jClose c)) ∧ w' = w := by
  rw [jClose_eq]
  generalize (c.toNat : Int) = n
  go_enter Try.func12, Try.ntmps12
  go_wp2
  all_goals (go_ret; refine ⟨?_, rfl⟩; simp [*])

/-- What a slice of bytes that came in holds, as a list of bytes. -/
def bytesIn (zs : List Int) (len : Nat) : List UInt8 := (zs.take len).map fun n => UInt8.ofNat n.toNat
theorem bytesIn_length {zs : List Int} {len cap : Nat} (h1 : len ≤ cap) (h2 : zs.length = cap) : (bytesIn zs len).length = len := by
  simp [bytesIn]; omega
theorem bytesIn_get {zs : List Int} {len cap : Nat} (h1 : len ≤ cap) (h2 : zs.length = cap) (hw : ∀ n ∈ zs, (Lit.int .u8 n).wf = true) (i : Nat) (hi : i < (bytesIn zs len).length) : zs.getD i 0 = ((bytesIn zs len)[i].toNat : Int) := by
  have hl := bytesIn_length h1 h2
  have hi2 : i < zs.length := by omega
  have hb := bounds_u8 (hw zs[i] (List.getElem_mem hi2))
  rw [List.getD_eq_getElem?_getD, List.getElem?_eq_getElem hi2]
  simp only [bytesIn, List.getElem_map, List.getElem_take, Option.getD_some]
  rw [UInt8.toNat_ofNat']
  omega
end Go.Proofs.Qxb6606444a
