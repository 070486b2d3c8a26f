/-
  THE WALK of math/big's nat.scan over a text of digits, itself.
-/
import Derived.Test.Qxb6002384aFmtScan2
set_option linter.unusedVariables false
namespace Go.Proofs.Qxb6002384aFmt
open Go.RowKit

theorem ten_le (j : Nat) (h : j ≤ 18) : 10 ^ j ≤ 10 ^ 18 := Nat.pow_le_pow_right (by omega) h
theorem ten18 : (10 : Nat) ^ 18 = 1000000000000000000 := by decide
theorem ten19 : (10 : Nat) ^ 19 = 10000000000000000000 := by decide

theorem Inv.zero (s : ByteArray) (base : Nat) (w : World) : Inv s base 0 0 0 0 w (.slice none 0 0) := ⟨.inl ⟨rfl, rfl⟩, .inl ⟨rfl, rfl⟩, by simp [num], by simp, by omega⟩
theorem Inv.grown {s : ByteArray} {base k j A d b : Nat} {w w' : World} {z : Value} (h : Inv s base k j A d w z) (hg : w.grownBy w' (some b)) (hb : b < base) : Inv s base k j A d w' z :=
  ⟨h.1, h.2.1.grown hg hb, h.2.2⟩
theorem Inv.step {s : ByteArray} {base k j A d c : Nat} {w : World} {z : Value} (h : Inv s base k j A d w z) (hk : k < s.size) (hc : c = s[k].toNat) (hD : 48 ≤ c ∧ c ≤ 57) (hj : j < 18) : Inv s base (k + 1) (j + 1) A (d * 10 + (c - 48)) w z := by
  obtain ⟨h1, h2, h3, h4, h5⟩ := h
  refine ⟨by omega, h2, ?_, ?_, by omega⟩
  · have hL : k < s.data.toList.length := by rw [Array.length_toList]; exact hk
    rw [num_take _ k hL, ← h3, Nat.pow_succ]
    have e : (s.data.toList[k]'hL) = s[k] := by simp; rfl
    rw [e, ← hc, ← Nat.mul_assoc, Nat.add_mul]
    omega
  · rw [Nat.pow_succ]; omega
theorem Inv.flush {s : ByteArray} {base k j A d c : Nat} {w w' : World} {z z' : Value} (h : Inv s base k j A d w z) (hk : k < s.size) (hc : c = s[k].toNat) (hD : 48 ≤ c ∧ c ≤ 57) (hj : j = 18) (hA : j = k ∧ A = 0) (hz : ZIs base w' z' (d * 10 + (c - 48)) 1) : Inv s base (k + 1) 0 (d * 10 + (c - 48)) 0 w' z' := by
  obtain ⟨h1, h2, h3, h4, h5⟩ := h
  obtain ⟨e1, rfl⟩ := hA
  refine ⟨.inr (by omega), hz, ?_, by simp, by omega⟩
  have hL : k < s.data.toList.length := by rw [Array.length_toList]; exact hk
  rw [num_take _ k hL, ← h3]
  have e : (s.data.toList[k]'hL) = s[k] := by simp; rfl
  rw [e, ← hc]
  simp

theorem Rd.grown {w w' : World} {b : Nat} {s : ByteArray} {i : Int} (h : Rd w b s i) (hg : w.grownBy w' none) (hb : b < w.heap.size) : Rd w' b s i := by
  obtain ⟨pr, h⟩ := h
  exact ⟨pr, (hg.block b hb (fun e => by cases e)).trans h⟩

set_option maxRecDepth 100000 in
set_option maxHeartbeats 8000000 in
theorem natScan (b : Nat) (s : ByteArray) (ea : Addr) (w : World) (hR : Rd w b s 0) (hE : Eof w (eofAt ea)) (hb : b ≠ 1) (hbs : b < w.heap.size) (hn0 : 0 < s.size) (hn : s.size ≤ 37) (hD : Digits s.data.toList) (hlt : num 0 s.data.toList < 18446744073709551616) :
    Calls Tryf.prog 43 #[.slice none 0 0, .iface 57 (.pointer (some ⟨b, 0, none⟩)), .int .i64 10, .bool false] w fun e w' => ∃ z cap, e = .returned (.tuple #[z, .int .i64 10, .int .i64 s.size, .nilIface]) ∧ ZIs w.heap.size w' z (num 0 s.data.toList) cap ∧ Rd w' b s s.size ∧ w.grownBy w' (some b) := by
  go_enter Tryf.func43, Tryf.ntmps43
  go_wp2_with fail
  refine (readByte_ok b s 0 w hR hn0 (by omega)).mono ?_
  rintro e w1 ⟨rfl, h1, g1⟩
  go_wp2_with fail
  refine (maxPow10 w1).mono ?_
  rintro e w2 ⟨rfl, hw⟩
  rw [hw]; clear hw w2
  go_wp2_with fail
  go_loopw [3, 13, 10, 20, 21, 0, 15, 11, 14, 22] (fun v3 v13 v10 v20 v21 v0 v15 v11 v14 v22 wr => ∃ (k j A d : Nat) (pr : Int) (z : Value), k ≤ s.size ∧ z = v0 ∧ v3 = .bool false ∧ v13 = .int .i32 pr ∧ (pr == 95) = false ∧ v10 = .int .i64 k ∧ v20 = .int .u64 d ∧ v21 = .int .i64 j ∧ v14 = .bool false ∧ v22 = .int .i64 (-1) ∧ Inv s w.heap.size k j A d wr z ∧ Look wr b s ea k v15 v11 ∧ w.grownBy wr (some b)) (fun _ _ v10 _ _ _ _ _ _ _ _ => s.size - (intOf v10).toNat)
  case atStart => exact ⟨0, 0, 0, 0, 46, _, by omega, rfl, rfl, rfl, rfl, rfl, rfl, rfl, rfl, rfl, Inv.zero _ _ _, .inl ⟨hn0, rfl, rfl, h1⟩, g1⟩
  case round =>
    clear h1 g1
    obtain ⟨k, j, A, d, pr, z, hk, rfl, rfl, rfl, hpr, rfl, rfl, rfl, rfl, rfl, hI, hL, hg⟩ := hrel
    have hEr : Eof wr (eofAt ea) := hE.grown hg hb
    have hd18 : d < 1000000000000000000 := by
      have := hI.2.2.2.1
      have := ten_le j hI.2.2.2.2
      rw [ten18] at this
      omega
    have hj18 : j ≤ 18 := hI.2.2.2.2
    rcases hL with ⟨hks, rfl, rfl, hRd⟩ | ⟨rfl, rfl, hRd⟩
    · obtain ⟨c, hc⟩ : ∃ c : Nat, c = s[k].toNat := ⟨_, rfl⟩
      have hDc : 48 ≤ c ∧ c ≤ 57 := by
        rw [hc]
        exact hD _ (by simp [ByteArray.getElem_eq_getElem_data])
      rw [← hc]
      have c1 : ((c : Int) == 46) = false := by simp; omega
      have c2 : ((c : Int) == 95) = false := by simp; omega
      have c3 : (48 : Int) ≤ (c : Int) := by omega
      have c4 : (c : Int) ≤ 57 := by omega
      have hH : Hid (Inv s w.heap.size k j A d wr z) := hid hI
      have hS := hid (hI.step hks hc hDc)
      have hF := hid (fun w' z' => hI.flush (w' := w') (z' := z') hks hc hDc)
      have hv0 : j = 18 → j = k ∧ A = 0 ∧ z = .slice none 0 0 := by
        intro e
        rcases hI.1 with ⟨e1, e2⟩ | e1
        · rcases hI.2.1 with ⟨_, e3⟩ | ⟨e3, _⟩
          · exact ⟨e1, e2, e3⟩
          · omega
        · omega
      have hE' := hid hE
      clear hI hlt hD hE
      by_cases hj : j = 18
      · obtain ⟨e1, e2, rfl⟩ := hv0 hj
        have hjk := hid (And.intro e1 e2)
        have cj : (((j : Int) + 1) == 19) = true := by simp; omega
        have hjh := hid hj
        clear hv0 e1 e2 hj hS
        go_wp2_with fail
        have e0 : ((d : Int) * 10 + ((s[k].toNat : Int) - 48)) = ((d * 10 + (c - 48) : Nat) : Int) := by rw [← hc]; omega
        rw [e0]
        refine (mulAddWW_nil 10000000000000000000 (d * 10 + (c - 48)) w.heap.size (by omega) wr hg.size).mono ?_
        rintro e w2 ⟨z2, rfl, hz2, hg2⟩
        have hRd2 := hRd.grown hg2 (Nat.lt_of_lt_of_le hbs hg.size)
        have hgg : w.grownBy w2 (some b) := grown_trans hg hg2 (fun k hk => by cases hk)
        have hE2 := hid (hE'.out.grown hgg hb)
        have hI2 := hid (hF.out w2 z2 hjh.out hjk.out hz2)
        clear hz2 hg2 hRd hF
        go_wp2_with fail
        refine (readByte_look b s ea (k + 1) w2 hRd2 (by omega) hE2.out hb (by omega)).mono ?_
        rintro e w3 ⟨ch, er, rfl, hL2, hg3⟩
        go_wp2_with fail
        go_roundw
        case rel => exact ⟨k + 1, 0, _, 0, 48, _, by omega, rfl, rfl, rfl, rfl, by go_num, rfl, rfl, rfl, rfl, hI2.out.grown hg3 hbs, hL2, grown_trans hgg hg3 (fun k hk => .inr hk)⟩
        case measure => simp [intOf]; omega
      · clear hv0 hF
        have cj : (((j + 1 : Nat) : Int) == 19) = false := by simp; omega
        go_wp2_with fail
        refine (readByte_look b s ea (k + 1) wr hRd (by omega) hEr hb (by omega)).mono ?_
        rintro e w2 ⟨ch, er, rfl, hL2, hg2⟩
        go_wp2_with fail
        go_roundw
        case rel => exact ⟨k + 1, j + 1, A, _, 48, _, by omega, rfl, rfl, rfl, rfl, by go_num, by go_num, by go_num, rfl, rfl, (hS.out (by omega)).grown hg2 hbs, hL2, grown_trans hg hg2 (fun k hk => .inr hk)⟩
        case measure => simp [intOf]; omega
    · have q1 := eof_nil ea
      have q2 := eof_eof ea
      have hcell : wr.cell? ⟨1, 0, none⟩ = some (eofAt ea) := hEr
      have c0 : ((s.size : Int) == 0) = false := beq_false_of_ne (by omega)
      have hnum : num 0 (s.data.toList.take s.size) = num 0 s.data.toList := by rw [List.take_of_length_le (by rw [Array.length_toList]; exact Nat.le_refl _)]
      have hI' := hid hI
      obtain ⟨_, hZ, hA, hd, _⟩ := hI
      rw [hnum] at hA
      rcases Nat.eq_zero_or_pos j with hj | hj
      · subst hj
        have hd0 : d = 0 := by simp at hd; omega
        subst hd0
        have hA' : A = num 0 s.data.toList := by simpa using hA
        subst hA'
        clear hA hd hnum hI'
        have hZ' := hid hZ
        clear hZ
        go_wp2_with fail
        refine bodyPost_ret (v := .tuple #[z, .int .i64 10, .int .i64 s.size, .nilIface]) (by simp [results, Tryf.results43, go_sem]) rfl ?_
        exact ⟨z, 1, rfl, hZ'.out, hRd, hg⟩
      · have c5 : (0 : Int) < (j : Int) := by omega
        have hA' := hid hA
        have hZ' := hid hZ
        clear hA hZ hd hI' hnum
        go_wp2_with fail
        refine (pow_ten j hj18 wr).mono ?_
        rintro e w2 ⟨rfl, hw⟩
        rw [hw]; clear hw w2
        go_wp2_with fail
        have hp10 : 0 < 10 ^ j := Nat.pow_pos (by omega)
        rcases hZ'.out with ⟨e1, rfl⟩ | ⟨e1, zb, e2, e3, rfl, e5⟩
        · subst e1
          refine (mulAddWW_nil (10 ^ j) d w.heap.size hp10 wr hg.size).mono ?_
          rintro e w2 ⟨z2, rfl, hz2, hg2⟩
          have hRd2 := hRd.grown hg2 (Nat.lt_of_lt_of_le hbs hg.size)
          have hgg : w.grownBy w2 (some b) := grown_trans hg hg2 (fun k hk => by cases hk)
          have hz3 := hid hz2
          clear hz2
          go_wp2_with fail
          refine bodyPost_ret (v := .tuple #[z2, .int .i64 10, .int .i64 s.size, .nilIface]) (by simp [results, Tryf.results43, go_sem]) rfl ?_
          refine ⟨z2, 1, rfl, ?_, hRd2, hgg⟩
          have := hA'.out
          rw [Nat.zero_mul, Nat.zero_add] at this
          rw [← this]
          exact hz3.out
        · have hAn := hA'.out
          have hAle : A ≤ num 0 s.data.toList := by
            rw [← hAn]
            exact Nat.le_trans (Nat.le_mul_of_pos_right A hp10) (Nat.le_add_right _ _)
          have h10 := ten_le j hj18
          rw [ten18] at h10
          refine (mulAddWW_one zb A (10 ^ j) d wr (by rw [hAn]; exact hlt) e1 hp10 (by omega) (by omega) e3 e5).mono ?_
          rintro e w2 ⟨rfl, hw⟩
          have hc2 : w2.cell? ⟨wr.heap.size, 0, none⟩ = some (.int .u64 ((A * 10 ^ j + d : Nat) : Int)) := by
            rw [hw, Lib.cell_of_heap (heap_alloc_new wr _)]; rfl
          have hg2 : wr.grownBy w2 none := by
            rw [hw]
            exact ⟨rfl, rfl, rfl, by simp, fun k hk _ => heap_alloc_old wr _ hk⟩
          have hs2 : wr.heap.size < w2.heap.size := by rw [hw]; simp
          clear hw
          have hRd2 := hRd.grown hg2 (Nat.lt_of_lt_of_le hbs hg.size)
          have hgg : w.grownBy w2 (some b) := grown_trans hg hg2 (fun k hk => by cases hk)
          have hc3 := hid hc2
          rw [hAn] at hc3
          clear hc2 hcell
          go_wp2_with fail
          refine bodyPost_ret (v := .tuple #[.slice (some ⟨wr.heap.size, 0, none⟩) 1 6, .int .i64 10, .int .i64 s.size, .nilIface]) (by simp [results, Tryf.results43, go_sem]) rfl ?_
          exact ⟨_, 6, rfl, .inr ⟨by omega, wr.heap.size, hg.size, hs2, rfl, hc3.out⟩, hRd2, hgg⟩
end Go.Proofs.Qxb6002384aFmt
