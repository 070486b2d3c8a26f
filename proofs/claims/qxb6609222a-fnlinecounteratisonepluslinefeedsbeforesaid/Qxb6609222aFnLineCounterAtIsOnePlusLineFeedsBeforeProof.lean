/-
  THE SHELL OF A PROOF OF 'Rows.FnLineCounterAtIsOnePlusLineFeedsBeforeSaid' ('example.com/tuoguan/tuoguan/zzlaws_internal_contract_b1.FnLineCounterAtIsOnePlusLineFeedsBefore'), WRITTEN BY PROGRAM (proof-skeleton.mjs, third state) off the guide's own print for that function. Not trusted: Lean checks it.
  The walk is ours. All else is THE GUIDE's OWN WAY (howto/template/XProofs.lean; Derived/Test/ChunkProofs.lean for 'Below') at this function's number and types: leave it.
-/
import Derived.Test.Qxb6609222aRows
import Derived.Test.Qxb6609222aRest
import Derived.WalkKit
import Derived.ProofKit
import Derived.OpenShut
import Derived.ShutString
import Derived.ChangeOld
import Derived.Below
namespace Go.Proofs.Qxb6609222a.fnLineCounterAtIsOnePlusLineFeedsBefore
open Go.ChangeShapes Go.WideShapes Go.ChangeAt Go.RowKit
open Go.ChangeMaps (open_string shut_string)
set_option linter.unusedVariables false

theorem own : ownKnob Try.prog.godebug = none := by kernel_rfl
theorem laidOut : laidOutB Try.prog = true := by kernel_rfl

/-- WHAT THE WALK IS TOLD OF A SLICE OF INTEGERS THAT CAME IN: it is nil; or it leads to a row of 'cap' cells, the numbers 'zs' (the first 'len' are its elements, the rest its spare room), each fitting its kind. -/
def IsRow (k : IntKind) (w : World) (a : Option Addr) (len cap : Nat) (zs : List Int) : Prop :=
  (a = none ∧ len = 0 ∧ cap = 0 ∧ zs = []) ∨
  ∃ x, a = some x ∧ len ≤ cap ∧ cap ≤ maxLen ∧ zs.length = cap ∧ (∀ i, i < zs.length → w.cell? (x.add i) = some (.int k (zs.getD i 0))) ∧ ∀ n ∈ zs, (Lit.int k n).wf = true

/-! ### STEP 1: THE WALK -/
set_option maxHeartbeats 1000000 in
theorem zz_any (a0 a1 : Option Addr) (n0 c0 n1 c1 : Nat) (w : World) (h0 : n0 ≤ 2 ^ 63 - 1) (h1 : n1 ≤ 2 ^ 63 - 1) :
    Calls Try.prog 5 #[.slice a0 n0 c0, .slice a1 n1 c1] w fun e w' => e = .returned (.bool (decide (n0 + n1 ≤ 1048576))) ∧ w' = w := by
  by_cases g1 : n0 ≤ 1048576
  · by_cases g2 : n1 ≤ 1048576
    · by_cases g3 : n0 + n1 ≤ 1048576
      all_goals
        go_enter Try.func5, Try.ntmps5
        go_wp2
        go_ret
        exact ⟨by simp; omega, rfl⟩
    · go_enter Try.func5, Try.ntmps5
      go_wp2
      go_ret
      exact ⟨by simp; omega, rfl⟩
  · go_enter Try.func5, Try.ntmps5
    go_wp2
    go_ret
    exact ⟨by simp; omega, rfl⟩

/-- The offsets that came in: where each lies, and what it holds. -/
def Offs (w : World) (a1 : Option Addr) (cap1 g1 o1 : Nat) (O : List Int) : Prop :=
  (∀ (i : Nat) (W : World), i < O.length → (Instr.indexAt 23 (.slice a1 O.length cap1) (.int .i64 i)).run Try.prog W = .ok (.pointer (some ⟨g1, o1 + i, none⟩)) W) ∧
  (∀ i (h : i < O.length), w.cell? ⟨g1, o1 + i, none⟩ = some (.int .i64 O[i]))

/-- The first k numbers of the row are the line feeds before each place. -/
def bIs (xs : List Value) (L : List UInt8) (k : Nat) : Prop := ∀ i, i ≤ k → xs[i]? = some (.int .i64 (lf L i : Int))
theorem bIs.set {xs : List Value} {L : List UInt8} {k : Nat} (h : bIs xs L k) (hl : k + 1 < xs.length) : bIs (xs.set (k + 1) (.int .i64 (lf L (k + 1) : Int))) L (k + 1) := by
  intro i hi
  rw [List.getElem?_set]
  by_cases e : k + 1 = i
  · rw [if_pos e, if_pos (by omega), e]
  · rw [if_neg e]
    exact h i (by omega)

theorem made_zero (n : Nat) (h : 0 < n) : (madeCells #[Value.int .i64 0] n).toList[0]? = some (.int .i64 ((0 : Nat) : Int)) := by
  rw [toList_madeCells_one, List.getElem?_replicate, if_pos h]
  rfl
theorem bIs.put {xs : List Value} {L : List UInt8} {k : Nat} (h : bIs xs L k) (v : Value) : bIs (xs.set (k + 1) v) L k := by
  intro i hi
  rw [List.getElem?_set, if_neg (by omega)]
  exact h i hi
theorem bIs.next {xs : List Value} {L : List UInt8} {k : Nat} {z : Int} (h : bIs xs L k) (hl : k + 1 < xs.length) (hz : (lf L (k + 1) : Int) = z) : bIs (xs.set (k + 1) (.int .i64 z)) L (k + 1) := by
  subst hz
  exact h.set hl

theorem below_undrew {B : Nat} {w w' : World} (h : Below B w.drew w') : Below B w w' := ⟨h.os, h.tape, h.output, h.size, h.block⟩

set_option maxHeartbeats 4000000 in
theorem main (a0 a1 : Option Addr) (cap0 cap1 g1 o1 : Nat) (L : List UInt8) (O : List Int) (w : World) (hO : Offs w a1 cap1 g1 o1 O) (hg1 : 0 < O.length → g1 < w.heap.size)
    (hclone : Calls Try.prog 6 #[.slice a0 L.length cap0] w fun e w' => ∃ A, e = .returned A ∧ Data w' w'.heap.size A L ∧ Below w.heap.size w w')
    (c0 : L.length + O.length ≤ 1048576) (c1 : O.length ≤ 4096) (c2 : L.length + 8 * O.length ≤ 1048576) :
    Calls Try.prog 3 #[.slice a0 L.length cap0, .slice a1 O.length cap1] w fun e w' => e = .returned (.bool true) ∧ Below w.heap.size w w' := by
  have HCL := hid hclone
  clear hclone
  obtain ⟨i0, hi, hz0, hz1, hz2⟩ := info_parts info3
  have hidx := hO.1
  have hl0 : L.length ≤ 1048576 := by omega
  go_enter Try.func3, Try.ntmps3
  go_wp2_with (go_at_call 5; refine (zz_any _ _ _ _ _ _ _ (by omega) (by omega)).mono ?_; rintro e w' ⟨rfl, hw⟩; rw [hw]; clear hw w')
  go_loop [5] (fun t => ∃ k : Nat, k ≤ O.length ∧ t = .int .i64 k ∧ ∀ i (h : i < O.length), i < k → 0 ≤ O[i] ∧ O[i] ≤ L.length) (fun t => O.length - (intOf t).toNat)
  case atStart => exact ⟨0, by omega, rfl, fun i _ h => absurd h (by omega)⟩
  case round =>
    obtain ⟨k, hk, rfl, hR⟩ := hrel
    by_cases hlt : k < O.length
    · have hx := hO.2 k hlt
      by_cases r1 : 0 ≤ O[k]
      · by_cases r2 : O[k] ≤ L.length
        · have hR2 : Hid (∀ i (h : i < O.length), i < k + 1 → 0 ≤ O[i] ∧ O[i] ≤ L.length) := fun i h hi => by
            rcases Nat.lt_or_ge i k with h1 | h1
            · exact hR i h h1
            · obtain rfl : i = k := by omega
              exact ⟨r1, r2⟩
          clear hR
          go_wp2
          go_round
          case rel => exact ⟨k + 1, by omega, by go_num, hR2.out⟩
          case measure => simp [intOf]; omega
        · clear hR
          go_wp2
          go_ret
          exact ⟨rfl, Below.refl _ _⟩
      · clear hR
        go_wp2
        go_ret
        exact ⟨rfl, Below.refl _ _⟩
    · have hR2 : Hid (∀ i (h : i < O.length), 0 ≤ O[i] ∧ O[i] ≤ L.length) := fun i h => hR i h (by omega)
      clear hR hidx
      go_wp2_with fail
      refine HCL.out.mono ?_
      rintro e w1 ⟨A, rfl, hD1, hb1⟩
      clear HCL
      obtain ⟨a, c, gd, od, hA, hidx2, hcd, hgd⟩ := hD1.opened
      subst hA
      go_wp2_with (at_make; refine wpList_make_full _ rfl _ _ 23 rfl w1.heap.size 3 i0 (.int .i64 0) 1 Try.underlying23 hi hz0 hz1 _ _ _ _ (L.length + 1) rfl rfl ?b0 ?b1 ?b2 ?b3 (Nat.le_refl _) ?_)
      case b0 => omega
      case b1 => omega
      case b2 => rw [hz2]; omega
      case b3 => unfold maxLen; omega
      intro w2 hown2 hgrow2
      have hbw2 : Below w1.heap.size w1 w2 := (Below.refl _ _).grown hgrow2 (Nat.le_refl _) (fun k h => by cases h)
      have hsz2 : w1.heap.size < w2.heap.size := (hown2.lt w1.heap.size rfl).2
      have hown3 : ∃ xs, w2.ownsRow w1.heap.size 3 1 (.slice (some ⟨w1.heap.size, 0, none⟩) (L.length + 1) (L.length + 1)) (L.length + 1) xs ∧ bIs xs L 0 := by
        refine ⟨_, hown2, fun i hi => ?_⟩
        obtain rfl : i = 0 := by omega
        rw [lf_zero]
        exact made_zero (L.length + 1) (by omega)
      clear hown2 hgrow2
      obtain ⟨xs0, hown2, hB0⟩ := hown3
      go_wp2_with fail
      go_loopw [7] (fun t wr => ∃ (j : Nat) (xs : List Value), j ≤ L.length ∧ t = .int .i64 j ∧ wr.ownsRow w1.heap.size 3 1 (.slice (some ⟨w1.heap.size, 0, none⟩) (L.length + 1) (L.length + 1)) (L.length + 1) xs ∧ Below w1.heap.size w1 wr ∧ bIs xs L j) (fun t _ => L.length - (intOf t).toNat)
      case atStart => exact ⟨0, xs0, by omega, rfl, hown2, hbw2, hB0⟩
      case round =>
        clear hown2 hbw2 hB0
        obtain ⟨j, xs, hj, rfl, hown, hbw, hB⟩ := hrel
        have hxl : xs.length = L.length + 1 := by have := hown.1; omega
        by_cases hlj : j < L.length
        · have hx : wr.cell? ⟨gd, od + j, none⟩ = some (.int .u8 (L[j].toNat : Int)) := (hbw.cell (p := ⟨gd, od + j, none⟩) (hgd (by omega))).trans (hcd j hlj)
          have hq0 : wr.cell? ⟨w1.heap.size, j, none⟩ = some (.int .i64 (lf L j : Int)) := by rw [hown.cellAt j (by omega)]; exact hB j (Nat.le_refl _)
          have hq1 : wr.cell? ⟨w1.heap.size, j + 1, none⟩ = some (xs[j + 1]'(by omega)) := by rw [hown.cellAt (j + 1) (by omega), List.getElem?_eq_getElem (by omega)]
          have hfz := hown.frozenAt (j + 1)
          have hnx := lf_next hlj
          have hle := lf_le L j
          have hst1 := hown.stored (j + 1) (.int .i64 (lf L j : Int))
          by_cases c10 : ((L[j].toNat : Int) == 10) = true
          · rw [if_pos c10] at hnx
            have hst2 := hst1.1.stored (j + 1) (.int .i64 ((lf L j : Int) + 1))
            have hB2 := (hB.put (.int .i64 (lf L j : Int))).next (z := (lf L j : Int) + 1) (by rw [List.length_set]; omega) (by omega)
            have hbel := (hbw.grown hst1.2 hbw.size (fun k h => by simp at h; omega)).grown hst2.2 (by have := hbw.size; simp; omega) (fun k h => by simp at h; omega)
            have HX := hid (And.intro hst2.1 (And.intro hB2 hbel))
            clear hst1 hst2 hB hB2 hbel hnx hown
            go_wp2_with fail
            go_roundw
            case rel => exact ⟨j + 1, _, by omega, by go_num, HX.out.1, HX.out.2.2, HX.out.2.1⟩
            case measure => simp [intOf]; omega
          · have n10 : ((L[j].toNat : Int) == 10) = false := by simpa using c10
            rw [if_neg c10] at hnx
            have hB2 := hB.next (z := (lf L j : Int)) (by omega) (by omega)
            have hbel := hbw.grown hst1.2 hbw.size (fun k h => by simp at h; omega)
            have HX := hid (And.intro hst1.1 (And.intro hB2 hbel))
            clear hst1 hB hB2 hbel hnx hown c10
            go_wp2_with fail
            go_roundw
            case rel => exact ⟨j + 1, _, by omega, by go_num, HX.out.1, HX.out.2.2, HX.out.2.1⟩
            case measure => simp [intOf]; omega
        · rename World => wq
          have hbf : Hid (∀ i, i ≤ L.length → wq.cell? ⟨w1.heap.size, i, none⟩ = some (.int .i64 (lf L i : Int))) := fun i hi => by
            rw [hown.cellAt i (by omega)]; exact hB i (by omega)
          have hsw : w1.heap.size < wq.heap.size := (hown.lt w1.heap.size rfl).2
          have HD := hid (hD1.below hbw (Nat.le_of_lt hsw))
          clear hown hB hidx2 hcd hgd hD1
          go_wp2_with fail
          refine (new_any (.slice a L.length c) L _ ⟨_, _, _, rfl⟩).mono ?_
          rintro e w3 ⟨rfl, hLc3, hb3, hs3⟩
          have HL := hid hLc3
          clear hLc3
          go_wp2_with fail
          go_loopw [9] (fun t w4 => ∃ (k p : Nat), k ≤ O.length ∧ t = .int .i64 k ∧ p ≤ L.length ∧ Lc w4 wq.heap.size (.slice a L.length c) p (1 + (lf L p : Int)) ∧ Below wq.heap.size w3 w4) (fun t _ => O.length - (intOf t).toNat)
          case atStart => exact ⟨0, 0, by omega, rfl, by omega, HL.out, Below.refl _ _⟩
          case round =>
            obtain ⟨k, p, hk, rfl, hp, hLc, hb4⟩ := hrel
            by_cases hlt3 : k < O.length
            · have hrg := hR2.out k hlt3
              obtain ⟨q, hq⟩ : ∃ q : Nat, O[k] = q := ⟨O[k].toNat, by omega⟩
              have hql : q ≤ L.length := by omega
              have hwx : w.heap.size ≤ w1.heap.size := hb1.size
              have hgk := hg1 (by omega)
              have hx : _ = some (Value.int .i64 O[k]) := (hb4.cell (p := ⟨g1, o1 + k, none⟩) (by show g1 < _; omega)).trans ((hb3.cell (p := ⟨g1, o1 + k, none⟩) (by show g1 < _; omega)).trans ((hbw.cell (p := ⟨g1, o1 + k, none⟩) (by show g1 < _; omega)).trans ((hb1.cell (p := ⟨g1, o1 + k, none⟩) (by show g1 < _; omega)).trans (hO.2 k hlt3))))
              rw [hq] at hx
              have hbq : _ = some (Value.int .i64 (lf L q : Int)) := (hb4.cell (p := ⟨w1.heap.size, q, none⟩) hsw).trans ((hb3.cell (p := ⟨w1.heap.size, q, none⟩) hsw).trans (hbf.out q hql))
              have HQ := hid hbq
              have hD4 := (HD.out.below hb3 (Nat.le_refl _)).below hb4 (Nat.le_refl _)
              have hle := lf_le L q
              have hwr : IntKind.i64.wrap (1 + (lf L q : Int)) = 1 + (lf L q : Int) := by rw [IntKind.wrap_i64]; omega
              have j1 : (0 : Int) ≤ (q : Int) := by omega
              have j2 : (q : Int) < ((L.length + 1 : Nat) : Int) := by omega
              have hidx := hO.1
              clear hrg hq
              go_wp2_with fail
              go_region_with (first | (go_at_call 8; refine (zzat_any wq.heap.size (.slice a L.length c) L p q _ _ rfl (by exact hLc) (by exact hD4) hp hql (by omega)).mono ?_; rintro e w5 ⟨rfl, hLc5, hb5⟩; have hbq5 : w5.cell? ⟨w1.heap.size, q, none⟩ = some (Value.int .i64 (lf L q : Int)) := (hb5.cell (p := ⟨w1.heap.size, q, none⟩) hsw).trans HQ.out))
              all_goals
                go_wp2_with fail
                go_roundw
                case rel => exact ⟨k + 1, q, by omega, by go_num, hql, hLc5, hb4.trans (below_undrew hb5)⟩
                case measure => simp [intOf]; omega
            · clear hLc
              go_wp2_with fail
              go_ret
              exact ⟨rfl, (hb1.trans ((hbw.mono hb1.size).trans ((hb3.mono (Nat.le_trans hb1.size (Nat.le_of_lt hsw))).trans (hb4.mono (Nat.le_trans hb1.size (Nat.le_of_lt hsw))))))⟩

theorem idx_of (x : Addr) (n cap : Nat) (g1 o1 : Nat) (hx : x = ⟨g1, o1, none⟩) (i : Nat) (W : World) (hi : i < n) : (Instr.indexAt 23 (.slice (some x) n cap) (.int .i64 i)).run Try.prog W = .ok (.pointer (some ⟨g1, o1 + i, none⟩)) W := by
  subst hx
  have i1 : (0 : Int) ≤ (i : Int) := by omega
  have i2 : (i : Int) < (n : Int) := by omega
  go_simp

/-- The offsets that came in. -/
theorem offs_of (w : World) (a1 : Option Addr) (len1 cap1 : Nat) (z1 : List Int) (h : IsRow .i64 w a1 len1 cap1 z1) : ∃ g1 o1, (z1.take len1).length = len1 ∧ Offs w a1 cap1 g1 o1 (z1.take len1) ∧ (0 < (z1.take len1).length → g1 < w.heap.size) := by
  rcases h with ⟨rfl, rfl, rfl, rfl⟩ | ⟨x, rfl, hc, hm, hz, hcell, hwf⟩
  · exact ⟨0, 0, rfl, ⟨fun i W hi => absurd hi (by simp), fun i hi => absurd hi (by simp)⟩, fun h => absurd h (by simp)⟩
  · have hl : (z1.take len1).length = len1 := by simp; omega
    by_cases h0 : len1 = 0
    · subst h0
      exact ⟨0, 0, by simp, ⟨fun i W hi => absurd hi (by simp), fun i hi => absurd hi (by simp)⟩, fun h => absurd h (by simp)⟩
    · obtain ⟨bk, off, hx, hcl⟩ := ints_at hcell (by omega)
      have hcs : ∀ i (h : i < (z1.take len1).length), w.cell? ⟨bk, off + i, none⟩ = some (.int .i64 (z1.take len1)[i]) := fun i hi => by
        rw [hcl i (by omega)]
        simp [List.getD_eq_getElem?_getD, List.getElem?_eq_getElem (by omega : i < z1.length)]
      exact ⟨bk, off, hl, ⟨fun i W hi => idx_of x _ _ bk off hx i W hi, hcs⟩, fun h => World.block_lt_of_cell? w _ (hcs 0 h)⟩

theorem clone_of (w : World) (a0 : Option Addr) (len0 cap0 : Nat) (z0 : List Int) (h : IsRow .u8 w a0 len0 cap0 z0) (hl : len0 ≤ 2 ^ 40) : (bytesIn z0 len0).length = len0 ∧
    Calls Try.prog 6 #[.slice a0 (bytesIn z0 len0).length cap0] w fun e w' => ∃ A, e = .returned A ∧ Data w' w'.heap.size A (bytesIn z0 len0) ∧ Below w.heap.size w w' := by
  rcases h with ⟨rfl, rfl, rfl, rfl⟩ | ⟨x, rfl, hc, hm, hz, hcell, hwf⟩
  · exact ⟨rfl, clone_nil 0 w⟩
  · have hlen := bytesIn_length hc hz
    refine ⟨hlen, ?_⟩
    by_cases h0 : len0 = 0
    · subst h0
      have e : bytesIn z0 0 = [] := by simp [bytesIn]
      rw [e]
      exact clone_empty x cap0 w
    · obtain ⟨bk, off, rfl, hcl⟩ := ints_at hcell (by omega)
      have hT : Txt w bk off (bytesIn z0 len0) := fun i hi => by
        rw [hcl i (by omega), bytesIn_get hc hz hwf i hi]
      exact clone_full bk off cap0 _ w hT (World.block_lt_of_cell? w _ (hT 0 (by omega))) (by omega)

theorem len_of {k : IntKind} {w : World} {a : Option Addr} {len cap : Nat} {zs : List Int} (h : IsRow k w a len cap zs) : len ≤ 2 ^ 63 - 1 := by
  rcases h with ⟨_, h, _, _⟩ | ⟨_, _, h1, h2, _⟩
  · omega
  · unfold maxLen at h2; omega

set_option maxHeartbeats 1000000 in
theorem walk (a0 : Option Addr) (len0 cap0 : Nat) (z0 : List Int) (a1 : Option Addr) (len1 cap1 : Nat) (z1 : List Int) (w : World) (w0 : IsRow .u8 w a0 len0 cap0 z0) (w1 : IsRow .i64 w a1 len1 cap1 z1) :
    Calls Try.prog 3 #[.slice a0 len0 cap0, .slice a1 len1 cap1] w fun e w' => e = .returned (.bool true) ∧ Below w.heap.size w w' := by
  have h0 := len_of w0
  have h1 := len_of w1
  by_cases c0 : len0 + len1 ≤ 1048576
  · by_cases c1 : len1 ≤ 4096
    · by_cases c2 : len0 + 8 * len1 ≤ 1048576
      · obtain ⟨g1, o1, e1, hO, hg⟩ := offs_of w a1 len1 cap1 z1 w1
        obtain ⟨e0, hcl⟩ := clone_of w a0 len0 cap0 z0 w0 (by omega)
        have hm := main a0 a1 cap0 cap1 g1 o1 (bytesIn z0 len0) (z1.take len1) w hO hg hcl (by omega) (by omega) (by omega)
        rw [e0, e1] at hm
        exact hm
      · clear w0 w1
        go_enter Try.func3, Try.ntmps3
        go_wp2_with (go_at_call 5; refine (zz_any _ _ _ _ _ _ _ h0 h1).mono ?_; rintro e w' ⟨rfl, rfl⟩)
        go_ret
        exact ⟨rfl, Below.refl _ _⟩
    · clear w0 w1
      go_enter Try.func3, Try.ntmps3
      go_wp2_with (go_at_call 5; refine (zz_any _ _ _ _ _ _ _ h0 h1).mono ?_; rintro e w' ⟨rfl, rfl⟩)
      go_ret
      exact ⟨rfl, Below.refl _ _⟩
  · clear w0 w1
    go_enter Try.func3, Try.ntmps3
    go_wp2_with (go_at_call 5; refine (zz_any _ _ _ _ _ _ _ h0 h1).mono ?_; rintro e w' ⟨rfl, rfl⟩)
    go_ret
    exact ⟨rfl, Below.refl _ _⟩

/-! ### THE ROW's STEP: WRITTEN OUT: LEAVE IT -/
set_option maxRecDepth 100000 in
theorem lifted (os : Os) (started : os.Started) (H : Type) (enc : TypeId × Value → H) :
    ReturnsInHanded {} Try.checked os 3 .any (Rows.fnLineCounterAtIsOnePlusLineFeedsBeforeSpec.pre6 enc Try.prog Try.f3 Rows.fnLineCounterAtIsOnePlusLineFeedsBeforeRow.domain false) (Rows.fnLineCounterAtIsOnePlusLineFeedsBeforeSpec.post enc Try.prog Try.f3 false true false false) := by
  refine returnsInHanded_of_change (C := Try.checked) own started (by kernel_rfl) Try.func3
    (ChangeSpec.witness6 (enc := enc) (C := Try.checked) false ⟨#[], #[.slice none 0 0, .slice none 0 0], []⟩ 8 (by kernel_rfl) (by kernel_rfl) (by kernel_rfl) (by kernel_rfl)) ?_
  intro W base args ds gs before hval0 hW hcnd _
  have hval : ∀ (j : Nat) t v, Try.f3.params[j]? = some t → args[j]? = some v → Value.okWide Try.prog W .any base t v := hval0
  have hW' := hW
  obtain ⟨p, q, hA0, hV, rfl, hfz, hnd⟩ := hW
  have hA : DataW.TrodAll enc Try.prog W 0 (fun _ => true) true Try.f3.params.toList args.toList ds p := hA0
  rw [Try.params3] at hA hval
  obtain ⟨v0, vs0, d0, ds0, p0, q0, hargs, rfl, rfl, h0, r0⟩ := trodAll_cons hA
  obtain ⟨v1, vs1, d1, ds1, p1, q1, rfl, rfl, rfl, h1, r1⟩ := trodAll_cons r0
  obtain ⟨rfl, rfl, rfl⟩ := trodAll_nil r1
  obtain rfl : args = #[v0, v1] := by cases args; simp_all
  obtain ⟨rfl, rfl⟩ := trodVars_none hV
  obtain ⟨a0, len0, cap0, rfl⟩ := okWide_slice Try.underlying22 (hval 0 22 v0 rfl rfl)
  have k0 := h0
  have lt0 : ∀ x ∈ p0, x.block < W.heap.size := by obtain ⟨m, hm⟩ := k0; exact DataW.trod_lt m _ _ _ hm
  obtain ⟨z0, w0⟩ : ∃ zs, IsRow .u8 W a0 len0 cap0 zs := by
    obtain ⟨fuel, hf⟩ := h0
    rcases open_ints Try.underlying22 Try.underlying5 (by kernel_rfl) hf with ⟨hcs, _⟩ | ⟨x, l, c, zs, hcs, _, hl, hm, hz, _, hcell, hwz⟩
    · simp [Value.cells] at hcs
      obtain ⟨rfl, rfl, rfl⟩ := hcs
      exact ⟨[], .inl ⟨rfl, rfl, rfl, rfl⟩⟩
    · simp [Value.cells] at hcs
      obtain ⟨rfl, rfl, rfl⟩ := hcs
      exact ⟨zs, .inr ⟨_, rfl, hl, hm, by simpa using hz, hcell, hwz⟩⟩
  obtain ⟨a1, len1, cap1, rfl⟩ := okWide_slice Try.underlying23 (hval 1 23 v1 rfl rfl)
  have k1 := h1
  have lt1 : ∀ x ∈ p1, x.block < W.heap.size := by obtain ⟨m, hm⟩ := k1; exact DataW.trod_lt m _ _ _ hm
  obtain ⟨z1, w1⟩ : ∃ zs, IsRow .i64 W a1 len1 cap1 zs := by
    obtain ⟨fuel, hf⟩ := h1
    rcases open_ints Try.underlying23 Try.underlying3 (by kernel_rfl) hf with ⟨hcs, _⟩ | ⟨x, l, c, zs, hcs, _, hl, hm, hz, _, hcell, hwz⟩
    · simp [Value.cells] at hcs
      obtain ⟨rfl, rfl, rfl⟩ := hcs
      exact ⟨[], .inl ⟨rfl, rfl, rfl, rfl⟩⟩
    · simp [Value.cells] at hcs
      obtain ⟨rfl, rfl, rfl⟩ := hcs
      exact ⟨zs, .inr ⟨_, rfl, hl, hm, by simpa using hz, hcell, hwz⟩⟩
  clear hA0 hval0
  refine (walk a0 len0 cap0 z0 a1 len1 cap1 z1 W w0 w1).mono fun e W' ⟨he, bel⟩ => ?_
  subst he
  exact ⟨_, rfl, _, _, _, [], _, [], hW', trodAll_mk1 (shut_bool Try.underlying4 _), (trodAll_cons_mk (Below.trod laidOut (by kernel_rfl) (of_decide_eq_true (by kernel_rfl)) k0 bel lt0) (trodAll_cons_mk (Below.trod laidOut (by kernel_rfl) (of_decide_eq_true (by kernel_rfl)) k1 bel lt1) trodAll_mk0)), rfl, bel.frame _, fun h => by cases h⟩

theorem over : Rows.fnLineCounterAtIsOnePlusLineFeedsBeforeRow.holds Try.pinned (OpenSpec.ofChange Rows.fnLineCounterAtIsOnePlusLineFeedsBeforeSpec) :=
  OpenClaim.holds_of_wide 3 Try.f3 rfl rfl rfl rfl rfl rfl rfl ⟨rfl, rfl, rfl, rfl, rfl⟩ rfl rfl rfl rfl rfl (by kernel_rfl) Try.func3 (by kernel_rfl)
    (of_decide_eq_true (by kernel_rfl)) (by unfold Func.isWrapper; first | (rw [if_pos (by decide +kernel)]; kernel_rfl) | (rw [if_neg (by decide +kernel)]; exact ⟨rfl, rfl⟩))
    (fun os started H enc _ => lifted os started H enc)

/-- ████ THE STATEMENT ████ -/
theorem proved : Rows.FnLineCounterAtIsOnePlusLineFeedsBeforeSaid := over
end Go.Proofs.Qxb6609222a.fnLineCounterAtIsOnePlusLineFeedsBefore
