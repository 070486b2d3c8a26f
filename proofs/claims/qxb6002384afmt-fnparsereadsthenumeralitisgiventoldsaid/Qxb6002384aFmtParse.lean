/-
  THE WALKS of decimal's isDigits and Parse, at a numeral.
-/
import Derived.Test.Qxb6002384aFmtCut
set_option linter.unusedVariables false
namespace Go.Proofs.Qxb6002384aFmt
open Go.RowKit

set_option maxHeartbeats 1000000 in
theorem isDigits_ok (s : ByteArray) (w : World) (h0 : 0 < s.size) (hs : s.size ≤ 2 ^ 40) (hD : Digits s.data.toList) :
    Calls Tryf.prog 14 #[.string s] w fun e w' => e = .returned (.bool true) ∧ w' = w := by
  have hne : s.toList.isEmpty = false := by
    rw [Lib.toList_data]
    rw [List.isEmpty_eq_false_iff]
    intro e
    rw [Lib.size_eq, e] at h0
    exact absurd h0 (by decide)
  have hD' : ∀ k (h : k < s.size), 48 ≤ s[k].toNat ∧ s[k].toNat ≤ 57 := fun k h => hD _ (by simp [ByteArray.getElem_eq_getElem_data])
  have hDh := hid hD'
  clear hD hD'
  go_enter Tryf.func14, Tryf.ntmps14
  go_wp2_with fail
  go_loop [3] (fun t => ∃ k : Nat, k ≤ s.size ∧ t = .int .i64 k) (fun t => s.size - (intOf t).toNat)
  case atStart => exact ⟨0, by omega, rfl⟩
  case round =>
    obtain ⟨k, hk, rfl⟩ := hrel
    by_cases hlt : k < s.size
    · have hd := hDh.out k hlt
      have c1 : ¬ ((s[k].toNat : Int) < 48) := by omega
      have c2 : ¬ ((57 : Int) < (s[k].toNat : Int)) := by omega
      go_wp2_with fail
      go_round
      case rel => exact ⟨k + 1, by omega, by go_num⟩
      case measure => simp [intOf]; omega
    · go_wp2_with fail
      go_ret
      exact ⟨rfl, rfl⟩

theorem ib_none (W : List UInt8) (h : Digits W) : Lib.indexByte W 46 = -1 := by
  induction W with
  | nil => rfl
  | cons b l ih =>
    unfold Lib.indexByte
    have hb : (b == 46) = false := by
      apply beq_false_of_ne
      intro e
      have := (h b (by simp)).1
      rw [e] at this
      exact absurd this (by decide)
    rw [hb, ih (fun c hc => h c (by simp [hc]))]
    rfl
theorem ib_point (W F : List UInt8) (h : Digits W) : Lib.indexByte (W ++ 46 :: F) 46 = W.length := by
  induction W with
  | nil => rfl
  | cons b l ih =>
    have hb : (b == 46) = false := by
      apply beq_false_of_ne
      intro e
      have := (h b (by simp)).1
      rw [e] at this
      exact absurd this (by decide)
    rw [List.cons_append]
    unfold Lib.indexByte
    rw [hb, ih (fun c hc => h c (by simp [hc]))]
    have : ((l.length : Int) == -1) = false := beq_false_of_ne (by omega)
    rw [this]
    simp

/-- The numeral: a sign, digits, a point and digits. -/
def txt (neg : Bool) (W : List UInt8) (pt : Bool) (F : List UInt8) : List UInt8 := (if neg then [45] else []) ++ (W ++ (if pt then 46 :: F else []))

theorem cut_txt (W F : List UInt8) (pt : Bool) (h : Digits W) (hF : pt = false → F = []) : Lib.cut (W ++ (if pt then 46 :: F else [])) [46] = (W, F, pt) := by
  unfold Lib.cut
  rw [Lib.index_one]
  cases pt with
  | false =>
    rw [hF rfl]
    simp [ib_none W h]
  | true =>
    simp [ib_point W F h]
theorem trim_txt (neg : Bool) (W F : List UInt8) (pt : Bool) (h : Digits W) (h0 : W ≠ []) : Lib.trimPrefix (txt neg W pt F) [45] = W ++ (if pt then 46 :: F else []) := by
  unfold Lib.trimPrefix Lib.hasPrefix txt
  cases neg with
  | true => simp
  | false =>
    cases W with
    | nil => exact absurd rfl h0
    | cons b l =>
      have hb : (45 == b) = false := by
        apply beq_false_of_ne
        intro e
        have := (h b (by simp)).1
        rw [← e] at this
        exact absurd this (by decide)
      have hb' : ¬ 45 = b := by simpa using hb
      simp [hb']
theorem txt_head (neg : Bool) (W F : List UInt8) (pt : Bool) (s : ByteArray) (hs : s.data.toList = txt neg W pt F) (h : Digits W) (h0 : W ≠ []) : ∃ h1 : 0 < s.size, ((s[0].toNat : Int) == 45) = neg := by
  have hl : 0 < s.data.toList.length := by
    rw [hs]
    unfold txt
    have := List.length_pos_iff.2 h0
    simp
    omega
  have h1 : 0 < s.size := by rw [Lib.size_eq]; exact hl
  refine ⟨h1, ?_⟩
  have e : s[0] = s.data.toList[0]'hl := by simp [ByteArray.getElem_eq_getElem_data]
  rw [e]
  have e2 : s.data.toList[0]'hl = (txt neg W pt F)[0]'(by rw [← hs]; exact hl) := by simp only [hs]
  rw [e2]
  cases neg with
  | true => simp [txt]
  | false =>
    cases W with
    | nil => exact absurd rfl h0
    | cons b l =>
      have := (h b (by simp)).1
      simp [txt]
      omega

theorem append_list (a b : List UInt8) : ((⟨a.toArray⟩ : ByteArray) ++ (⟨b.toArray⟩ : ByteArray)).data.toList = a ++ b := by
  simp

theorem ba_ext {a b : ByteArray} (h : a.data.toList = b.data.toList) : a = b := by
  obtain ⟨⟨x⟩⟩ := a
  obtain ⟨⟨y⟩⟩ := b
  simp at h
  rw [h]
theorem heap_drewN (w : World) (n : Nat) : (w.drewN n).heap = w.heap := rfl
theorem below_drewN {B : Nat} {a w : World} (h : Below B a w) (n : Nat) : Below B a (w.drewN n) := ⟨h.os, h.tape, h.output, h.size, h.block⟩

set_option maxRecDepth 100000 in
set_option maxHeartbeats 1000000 in
theorem parse_ok (neg pt : Bool) (W F : List UInt8) (s : ByteArray) (ea : Addr) (base : Nat) (w : World) (hs : s.data.toList = txt neg W pt F) (hW : Digits W) (hF : Digits F) (hW0 : W ≠ []) (hF0 : pt = true → F ≠ []) (hF1 : pt = false → F = [])
    (hl : W.length + F.length ≤ 37) (hlt : num 0 (W ++ F) < 18446744073709551616) (hE : Eof w (eofAt ea)) (h2b : 2 < base) (hbase : base ≤ w.heap.size) :
    Calls Tryf.prog 6 #[.string s] w fun e w' => ∃ bz z cap, e = .returned (.tuple #[.agg #[.pointer (some ⟨bz, 0, none⟩), .int .i64 F.length], .nilIface]) ∧ BI w' bz (neg && decide (0 < num 0 (W ++ F))) z ∧ ZIs base w' z (num 0 (W ++ F)) cap ∧ Below base w w' := by
  obtain ⟨hs0, hneg⟩ := txt_head neg W F pt s hs hW hW0
  have hsz : s.size ≤ 40 := by
    rw [Lib.size_eq, hs]
    unfold txt
    cases neg <;> cases pt <;> simp <;> omega
  obtain ⟨S, hS⟩ : ∃ S : ByteArray, S = ⟨(W ++ (if pt then 46 :: F else [])).toArray⟩ := ⟨_, rfl⟩
  obtain ⟨WB, hWB⟩ : ∃ S : ByteArray, S = ⟨W.toArray⟩ := ⟨_, rfl⟩
  obtain ⟨FB, hFB⟩ : ∃ S : ByteArray, S = ⟨F.toArray⟩ := ⟨_, rfl⟩
  have hT : ∀ w, Calls Tryf.prog 13 #[.string s, .string ⟨#[45]⟩] w fun e w' => e = .returned (.string S) ∧ w' = w := fun w => by
    have h := Tryf.strings_TrimPrefix s ⟨#[45]⟩ w
    rw [hs] at h
    simp only [] at h
    rw [trim_txt neg W F pt hW hW0, ← hS] at h
    exact h
  have hC : ∀ w, Calls Tryf.prog 12 #[.string S, .string ⟨#[46]⟩] w fun e w' => e = .returned (.tuple #[.string WB, .string FB, .bool pt]) ∧ ∃ n, w' = w.drewN n := fun w => by
    cases pt with
    | false =>
      have hS' : WB = S := by rw [hS, hWB]; simp
      have hF' : FB = ⟨#[]⟩ := by rw [hFB, hF1 rfl]
      rw [hF', hS']
      refine (cut_none S w (by rw [hS]; simpa using ib_none W hW)).mono ?_
      rintro e w' ⟨rfl, hw⟩
      exact ⟨rfl, 0, hw⟩
    | true =>
      have h1 : Lib.indexByte S.data.toList 46 = W.length := by rw [hS]; simpa using ib_point W F hW
      have h3 : S.data.toList = W ++ 46 :: F := by rw [hS]; simp
      have h4 : S.size = W.length + F.length + 1 := by rw [Lib.size_eq, h3]; simp; omega
      refine (cut_some S W.length w h1 (by omega) (by omega)).mono ?_
      rintro e w' ⟨rfl, hw⟩
      have e1 : S.extract 0 W.length = WB := ba_ext (by rw [Lib.extract_data, h3, hWB]; simp)
      have e2 : S.extract (W.length + 1) S.size = FB := ba_ext (by
        rw [Lib.extract_data, h3, hFB, h4]
        rw [show W ++ 46 :: F = (W ++ [46]) ++ F by simp, List.drop_append_of_le_length (by simp)]
        simp)
      exact ⟨by rw [e1, e2], hw⟩
  have hT' := hid hT
  have hC' := hid hC
  have hWs : WB.size = W.length := by rw [hWB, Lib.size_eq]
  have hFs : FB.size = F.length := by rw [hFB, Lib.size_eq]
  have hWd : WB.data.toList = W := by rw [hWB]
  have hFd : FB.data.toList = F := by rw [hFB]
  have hWFd : (WB ++ FB).data.toList = W ++ F := by rw [hWB, hFB]; exact append_list W F
  clear hS hWB hFB
  have hWl := List.length_pos_iff.2 hW0
  have hDW := hid hW
  have hDF := hid hF
  have hlt' := hid hlt
  have hF0' := hid hF0
  have hE' := hid hE
  clear hT hC hW hF hlt hF0 hF1 hE hs
  go_enter Tryf.func6, Tryf.ntmps6
  go_wp2_with fail
  refine (hT'.out _).mono ?_
  rintro e w1 ⟨rfl, hw⟩
  have hw1 := hid hw
  clear hw
  go_wp2_with fail
  refine (hC'.out _).mono ?_
  rintro e w2 ⟨rfl, n, hw⟩
  obtain ⟨R, hR⟩ : ∃ R, R = w.heap.size := ⟨_, rfl⟩
  have hh2 : w2.heap = w1.heap := by rw [hw]; exact heap_drewN w1 n
  have hb2 : Below base w w2 := by
    rw [hw]
    refine below_drewN ?_ n
    rw [hw1.out]
    exact (Below.refl base w).alloc hbase _
  have hRB : w2.heap[R]? = some (.cells #[.pointer none, .int .i64 0] 25 (0, 0)) := by
    rw [hh2, hw1.out, hR]
    exact heap_alloc_new w _
  have hsz2 : w2.heap.size = R + 1 := by
    rw [hh2, hw1.out, hR]
    exact World.size_alloc w _
  clear hh2
  clear hw hw1 w1 hT' hC'
  rw [← hR]
  have hbR : base ≤ R := by omega
  clear hR
  have hDigW := isDigits_ok WB w2 (by omega) (by omega) (by rw [hWd]; exact hDW.out)
  have hn40 : ¬ ((40 : Int) < (WB.size : Int) + (FB.size : Int)) := by omega
  have hDigWF : Hid (Digits (WB ++ FB).data.toList) := by
    rw [hWFd]
    exact hid (fun c hc => by
      rcases List.mem_append.1 hc with h | h
      · exact hDW.out c h
      · exact hDF.out c h)
  have hsWF : (WB ++ FB).size = W.length + F.length := by rw [Lib.size_eq, hWFd, List.length_append]
  have hltWF : Hid (num 0 (WB ++ FB).data.toList < 18446744073709551616) := by rw [hWFd]; exact hlt'
  have hst : ∀ (w3 : World), Below base w w3 → w3.heap.size = R + 1 → Calls Tryf.prog 16 #[.pointer (some ⟨R + 1, 0, none⟩), .string (WB ++ FB), .int .i64 10] (w3.alloc (.cells #[.bool false, .slice none 0 0] 47)) fun e w' => ∃ z cap, e = .returned (.tuple #[.pointer (some ⟨R + 1, 0, none⟩), .bool true]) ∧ BI w' (R + 1) false z ∧ ZIs (R + 2) w' z (num 0 (W ++ F)) cap ∧ Below (R + 1) (w3.alloc (.cells #[.bool false, .slice none 0 0] 47)) w' := fun w3 hb3 hs3 => by
    have h := setString_ok (R + 1) (R + 1) (WB ++ FB) ea (w3.alloc (.cells #[.bool false, .slice none 0 0] 47)) (by
      have := heap_alloc_new w3 (.cells #[.bool false, .slice none 0 0] 47)
      rw [hs3] at this
      exact this) (by
        have h1 : w3.cell? ⟨1, 0, none⟩ = some (eofAt ea) := (hb3.cell (p := ⟨1, 0, none⟩) (by show 1 < base; omega)).trans hE'.out
        unfold Eof
        rw [World.cell?_alloc_past _ _ _ (by show 1 < w3.heap.size; omega)]
        exact h1) (by rw [World.size_alloc]; omega) (by omega) (Nat.le_refl _) (by rw [World.size_alloc]; omega) (by omega) (by omega) hDigWF.out hltWF.out
    rw [World.size_alloc, hs3, hWFd] at h
    exact h
  have hst' := hid hst
  clear hst hDigWF hltWF
  have hcont : True := trivial
  cases pt with
  | false =>
    go_wp2_with fail
    refine hDigW.mono ?_
    rintro e w3 ⟨rfl, hw⟩
    rw [hw]; clear hw w3 hDigW
    go_wp2_with fail
    refine (hst'.out w2 hb2 hsz2).mono ?_
    rintro e w3 ⟨z, cap, rfl, hBI, hZI, hb3⟩
    have hRB3 : w3.heap[R]? = some (.cells #[.pointer none, .int .i64 0] 25 (0, 0)) := by
      rw [hb3.block R (by omega), heap_alloc_old w2 _ (by omega)]
      exact hRB
    have r0 : w3.cell? ⟨R, 0, none⟩ = some (.pointer none) := by rw [Lib.cell_of_heap hRB3]; rfl
    have r1 : w3.cell? ⟨R, 1, none⟩ = some (.int .i64 0) := by rw [Lib.cell_of_heap hRB3]; rfl
    have rf0 : w3.frozen? ⟨R, 0, none⟩ = false := Lib.frozen_of_heap hRB3 0
    have rf1 : w3.frozen? ⟨R, 1, none⟩ = false := Lib.frozen_of_heap hRB3 1
    have hbw3 := hid ((hb2.alloc (o := .cells #[.bool false, .slice none 0 0] 47) (by omega)).trans (hb3.mono (by omega)))
    obtain ⟨za, zn, zc, rfl, hzn, hzA⟩ := hZI.len
    have hZI' := hid hZI
    have hBs : R + 1 < w3.heap.size := Nat.lt_of_lt_of_le (by rw [World.size_alloc]; omega) hb3.size
    have hnz : decide (0 < num 0 (W ++ F)) = decide (0 < zn) := by
      rw [decide_eq_decide]
      omega
    clear hZI hb3 hzA hst' hb2 hRB hRB3
    cases neg with
    | false =>
      go_wp2_with fail
      refine bodyPost_ret (v := .tuple #[.agg #[.pointer (some ⟨R + 1, 0, none⟩), .int .i64 F.length], .nilIface]) (by simp [results, Tryf.results6, go_sem, r0, r1]) rfl ?_
      refine ⟨R + 1, .slice za zn zc, cap, rfl, ?_, ?_, (hbw3.out.setCell hbR _).setCell hbR _⟩
      · exact (hBI.grown (grown_set _ R 0 _) hBs (by simp)).grown (grown_set _ R 1 _) (by rw [World.size_setCell]; exact hBs) (by simp)
      · exact ((hZI'.out.set (by omega)).set (by omega)).lower (by omega)
    | true =>
      go_wp2_with fail
      refine (neg_self (R + 1) zn zc za w3 hBI).mono ?_
      rintro e w4 ⟨rfl, hw⟩
      rw [hw]; clear hw w4
      go_wp2_with fail
      refine bodyPost_ret (v := .tuple #[.agg #[.pointer (some ⟨R + 1, 0, none⟩), .int .i64 F.length], .nilIface]) (by simp [results, Tryf.results6, go_sem, r0, r1]) rfl ?_
      refine ⟨R + 1, .slice za zn zc, cap, rfl, ?_, ?_, ((hbw3.out.setCell (by show base ≤ R + 1; omega) _).setCell hbR _).setCell hbR _⟩
      · rw [hnz, Bool.true_and]
        exact ((hBI.set0 _).grown (grown_set _ R 0 _) (by rw [World.size_setCell]; exact hBs) (by simp)).grown (grown_set _ R 1 _) (by rw [World.size_setCell, World.size_setCell]; exact hBs) (by simp)
      · exact (((hZI'.out.set (by omega)).set (by omega)).set (by omega)).lower (by omega)
  | true =>
    have hFl : 0 < F.length := List.length_pos_iff.2 (hF0'.out rfl)
    have hDigF := isDigits_ok FB w2 (by omega) (by omega) (by rw [hFd]; exact hDF.out)
    go_wp2_with fail
    refine hDigW.mono ?_
    rintro e w3 ⟨rfl, hw⟩
    rw [hw]; clear hw w3 hDigW
    go_wp2_with fail
    refine hDigF.mono ?_
    rintro e w3 ⟨rfl, hw⟩
    rw [hw]; clear hw w3 hDigF
    go_wp2_with fail
    refine (hst'.out w2 hb2 hsz2).mono ?_
    rintro e w3 ⟨z, cap, rfl, hBI, hZI, hb3⟩
    have hRB3 : w3.heap[R]? = some (.cells #[.pointer none, .int .i64 0] 25 (0, 0)) := by
      rw [hb3.block R (by omega), heap_alloc_old w2 _ (by omega)]
      exact hRB
    have r0 : w3.cell? ⟨R, 0, none⟩ = some (.pointer none) := by rw [Lib.cell_of_heap hRB3]; rfl
    have r1 : w3.cell? ⟨R, 1, none⟩ = some (.int .i64 0) := by rw [Lib.cell_of_heap hRB3]; rfl
    have rf0 : w3.frozen? ⟨R, 0, none⟩ = false := Lib.frozen_of_heap hRB3 0
    have rf1 : w3.frozen? ⟨R, 1, none⟩ = false := Lib.frozen_of_heap hRB3 1
    have hbw3 := hid ((hb2.alloc (o := .cells #[.bool false, .slice none 0 0] 47) (by omega)).trans (hb3.mono (by omega)))
    obtain ⟨za, zn, zc, rfl, hzn, hzA⟩ := hZI.len
    have hZI' := hid hZI
    have hBs : R + 1 < w3.heap.size := Nat.lt_of_lt_of_le (by rw [World.size_alloc]; omega) hb3.size
    have hnz : decide (0 < num 0 (W ++ F)) = decide (0 < zn) := by
      rw [decide_eq_decide]
      omega
    clear hZI hb3 hzA hst' hb2 hRB hRB3
    cases neg with
    | false =>
      go_wp2_with fail
      refine bodyPost_ret (v := .tuple #[.agg #[.pointer (some ⟨R + 1, 0, none⟩), .int .i64 F.length], .nilIface]) (by simp [results, Tryf.results6, go_sem, r0, r1]) rfl ?_
      refine ⟨R + 1, .slice za zn zc, cap, rfl, ?_, ?_, (hbw3.out.setCell hbR _).setCell hbR _⟩
      · exact (hBI.grown (grown_set _ R 0 _) hBs (by simp)).grown (grown_set _ R 1 _) (by rw [World.size_setCell]; exact hBs) (by simp)
      · exact ((hZI'.out.set (by omega)).set (by omega)).lower (by omega)
    | true =>
      go_wp2_with fail
      refine (neg_self (R + 1) zn zc za w3 hBI).mono ?_
      rintro e w4 ⟨rfl, hw⟩
      rw [hw]; clear hw w4
      go_wp2_with fail
      refine bodyPost_ret (v := .tuple #[.agg #[.pointer (some ⟨R + 1, 0, none⟩), .int .i64 F.length], .nilIface]) (by simp [results, Tryf.results6, go_sem, r0, r1]) rfl ?_
      refine ⟨R + 1, .slice za zn zc, cap, rfl, ?_, ?_, ((hbw3.out.setCell (by show base ≤ R + 1; omega) _).setCell hbR _).setCell hbR _⟩
      · rw [hnz, Bool.true_and]
        exact ((hBI.set0 _).grown (grown_set _ R 0 _) (by rw [World.size_setCell]; exact hBs) (by simp)).grown (grown_set _ R 1 _) (by rw [World.size_setCell, World.size_setCell]; exact hBs) (by simp)
      · exact (((hZI'.out.set (by omega)).set (by omega)).set (by omega)).lower (by omega)
end Go.Proofs.Qxb6002384aFmt
