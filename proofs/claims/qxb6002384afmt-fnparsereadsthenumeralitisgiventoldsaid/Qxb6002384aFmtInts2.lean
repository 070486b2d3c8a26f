/-
  THE WALKS of math/big's Int: setFromScanner, SetString, Neg, IsInt64, Int64.
-/
import Derived.Test.Qxb6002384aFmtInts
set_option linter.unusedVariables false
namespace Go.Proofs.Qxb6002384aFmt
open Go.RowKit

theorem eof_neq (ea : Addr) (w : World) : (binOp .neq 27 (eofAt ea) (eofAt ea)).run Tryf.prog w = .ok (.bool false) w := by
  obtain ⟨i, hi, hc⟩ := Option.map_eq_some_iff.1 info62
  obtain ⟨j, hj⟩ := Option.isSome_iff_exists.1 info64
  simp only [binOp]
  simp [Op.equal, Op.maxDepth, run_equalIn_iface_ptr_same w 9998 ea Tryf.underlying27 Tryf.underlying62 hi hc hj]

set_option maxRecDepth 100000 in
set_option maxHeartbeats 4000000 in
theorem setFromScanner_ok (b bz base : Nat) (s : ByteArray) (ea : Addr) (w : World) (hR : Rd w b s 0) (hZ : BI w bz false (.slice none 0 0)) (hE : Eof w (eofAt ea)) (hbase : base ≤ w.heap.size) (h1b : 1 < base) (hb : base ≤ b) (hbz : base ≤ bz) (hne : b ≠ bz) (hbs : b < w.heap.size) (hbzs : bz < w.heap.size) (hn0 : 0 < s.size) (hn : s.size ≤ 37) (hD : Digits s.data.toList) (hlt : num 0 s.data.toList < 18446744073709551616) :
    Calls Tryf.prog 30 #[.pointer (some ⟨bz, 0, none⟩), .iface 57 (.pointer (some ⟨b, 0, none⟩)), .int .i64 10] w fun e w' => ∃ z cap, e = .returned (.tuple #[.pointer (some ⟨bz, 0, none⟩), .bool true]) ∧ BI w' bz false z ∧ ZIs w.heap.size w' z (num 0 s.data.toList) cap ∧ Below base w w' := by
  have hD' := hid hD
  have hlt' := hid hlt
  have hE' := hid hE
  clear hD hlt hE
  have q := eof_neq ea
  go_enter Tryf.func30, Tryf.ntmps30
  go_wp2_with fail
  refine (intScan b bz base s ea w hR hZ hE'.out hbase h1b hb hbz hne hbs hbzs hn0 hn hD'.out hlt'.out).mono ?_
  rintro e w1 ⟨z, cap, rfl, hz, hzi, h1, hb1⟩
  have hE1 : Eof w1 (eofAt ea) := (hb1.cell (p := ⟨1, 0, none⟩) h1b).trans hE'.out
  go_wp2_with fail
  refine (readByte_end b s (eofAt ea) w1 h1 hE1 (by omega) (by omega)).mono ?_
  rintro e w2 ⟨rfl, h2, g2⟩
  have hE2 : Eof w2 (eofAt ea) := hE1.grown g2 (by omega)
  have hcell : w2.cell? ⟨1, 0, none⟩ = some (eofAt ea) := hE2
  have hb2 : Below base w w2 := hb1.grown g2 (Nat.le_trans hbase hb1.size) (fun k h => by have := Option.some.inj h; omega)
  have hz2 := hid (hz.grown g2 (Nat.lt_of_lt_of_le hbzs hb1.size) (fun e => hne (Option.some.inj e)))
  have hzi2 := hid (hzi.grown g2 hbs)
  clear hz hzi hE1 hE2
  go_wp2_with fail
  go_ret2
  exact ⟨z, cap, rfl, hz2.out, hzi2.out, hb2⟩

set_option maxRecDepth 100000 in
set_option maxHeartbeats 4000000 in
theorem setString_ok (bz base : Nat) (s : ByteArray) (ea : Addr) (w : World) (hZ : BI w bz false (.slice none 0 0)) (hE : Eof w (eofAt ea)) (hbase : base ≤ w.heap.size) (h1b : 1 < base) (hbz : base ≤ bz) (hbzs : bz < w.heap.size) (hn0 : 0 < s.size) (hn : s.size ≤ 37) (hD : Digits s.data.toList) (hlt : num 0 s.data.toList < 18446744073709551616) :
    Calls Tryf.prog 16 #[.pointer (some ⟨bz, 0, none⟩), .string s, .int .i64 10] w fun e w' => ∃ z cap, e = .returned (.tuple #[.pointer (some ⟨bz, 0, none⟩), .bool true]) ∧ BI w' bz false z ∧ ZIs w.heap.size w' z (num 0 s.data.toList) cap ∧ Below base w w' := by
  have hD' := hid hD
  have hlt' := hid hlt
  have hE' := hid hE
  clear hD hlt hE
  go_enter Tryf.func16, Tryf.ntmps16
  go_wp2_with fail
  refine (newReader_any s w).mono ?_
  rintro e w1 ⟨rfl, h1, hw⟩
  have hg1 : w.grownBy w1 none := by rw [hw]; exact ⟨rfl, rfl, rfl, by simp, fun k hk _ => heap_alloc_old w _ hk⟩
  have hs1 : w.heap.size < w1.heap.size := by rw [hw]; simp
  clear hw
  have hb1 : Below base w w1 := (Below.refl _ _).grown hg1 hbase (fun k h => by cases h)
  have hZ1 := hZ.grown hg1 hbzs (by simp)
  have hE1 : Eof w1 (eofAt ea) := (hb1.cell (p := ⟨1, 0, none⟩) h1b).trans hE'.out
  go_wp2_with fail
  refine (setFromScanner_ok w.heap.size bz base s ea w1 h1 hZ1 hE1 (Nat.le_trans hbase hg1.size) h1b hbase hbz (by omega) hs1 (by omega) hn0 hn hD'.out hlt'.out).mono ?_
  rintro e w2 ⟨z, cap, rfl, hz, hzi, hb2⟩
  go_wp2_with fail
  go_ret2
  exact ⟨z, cap, rfl, hz, hzi.lower hg1.size, hb1.trans hb2⟩

theorem info47 : (Tryf.prog.info? 47).isSome = true := by kernel_rfl
theorem ptr_neq (a : Addr) (w : World) : (binOp .neq 23 (.pointer (some a)) (.pointer (some a))).run Tryf.prog w = .ok (.bool false) w := by
  obtain ⟨j, hj⟩ := Option.isSome_iff_exists.1 info47
  have h : ∀ d : Nat, (Op.equalIn (d + 1) 23 (.pointer (some a)) (.pointer (some a))).run Tryf.prog w = .ok true w := fun d => by
    simp [Op.equalIn, run_underlying Tryf.underlying23, sizeOf, typeInfo, hj, run_sameAddr_same]
  simp only [binOp]
  simp [Op.equal, Op.maxDepth, h 9999]

set_option maxHeartbeats 1000000 in
theorem set_self (bz : Nat) (w : World) : Calls Tryf.prog 32 #[.pointer (some ⟨bz, 0, none⟩), .pointer (some ⟨bz, 0, none⟩)] w fun e w' => e = .returned (.pointer (some ⟨bz, 0, none⟩)) ∧ w' = w := by
  have q := ptr_neq ⟨bz, 0, none⟩ w
  go_enter Tryf.func32, Tryf.ntmps32
  go_wp2
  go_ret
  exact ⟨rfl, rfl⟩

set_option maxHeartbeats 1000000 in
theorem neg_self (bz n c : Nat) (za : Option Addr) (w : World) (hZ : BI w bz false (.slice za n c)) :
    Calls Tryf.prog 17 #[.pointer (some ⟨bz, 0, none⟩), .pointer (some ⟨bz, 0, none⟩)] w fun e w' => e = .returned (.pointer (some ⟨bz, 0, none⟩)) ∧ w' = w.setCell ⟨bz, 0, none⟩ (.bool (decide (0 < n))) := by
  have c0 := hZ.c0
  have c1 := hZ.c1
  have f0 := hZ.f 0
  by_cases hn : 0 < n
  · have h1 : (0 : Int) < (n : Int) := by omega
    have h2 : decide (0 < n) = true := by simpa using hn
    rw [h2]
    go_enter Tryf.func17, Tryf.ntmps17
    go_wp2_with fail
    refine (set_self bz w).mono ?_
    rintro e w1 ⟨rfl, hw⟩
    rw [hw]; clear hw w1
    go_wp2_with fail
    go_ret
    exact ⟨rfl, rfl⟩
  · have : n = 0 := by omega
    subst this
    go_enter Tryf.func17, Tryf.ntmps17
    go_wp2_with fail
    refine (set_self bz w).mono ?_
    rintro e w1 ⟨rfl, hw⟩
    rw [hw]; clear hw w1
    go_wp2_with fail
    go_ret
    exact ⟨rfl, rfl⟩

/-- The value of a word as a signed number's size. -/
theorem low64_any (z : Value) (base A cap : Nat) (w : World) (h : ZIs base w z A cap) : Calls Tryf.prog 33 #[z] w fun e w' => e = .returned (.int .u64 A) ∧ w' = w := by
  rcases h with ⟨rfl, rfl⟩ | ⟨h0, zb, h1, h2, rfl, h4⟩
  · go_enter Tryf.func33, Tryf.ntmps33
    go_wp2
    go_ret
    exact ⟨rfl, rfl⟩
  · go_enter Tryf.func33, Tryf.ntmps33
    go_wp2
    go_ret
    exact ⟨rfl, rfl⟩

set_option maxHeartbeats 1000000 in
theorem isInt64_any (bz base A cap : Nat) (ng : Bool) (z : Value) (w : World) (hZ : BI w bz ng z) (h : ZIs base w z A cap) (hA : A < 9223372036854775808) :
    Calls Tryf.prog 18 #[.pointer (some ⟨bz, 0, none⟩)] w fun e w' => e = .returned (.bool true) ∧ w' = w := by
  obtain ⟨za, zn, zc, rfl, hzn, hzA⟩ := h.len
  have c0 := hZ.c0
  have c1 := hZ.c1
  have hl := low64_any _ base A cap w h
  clear h hzA
  rcases hzn with rfl | rfl
  all_goals (
    go_enter Tryf.func18, Tryf.ntmps18
    go_wp2_with fail
    refine hl.mono ?_
    rintro e w1 ⟨rfl, hw⟩
    rw [hw]; clear hw w1
    have hA0 : (0 : Int) ≤ (A : Int) := by omega
    go_wp2_with fail
    go_ret
    exact ⟨rfl, rfl⟩)

set_option maxHeartbeats 1000000 in
theorem int64_any (bz base A cap : Nat) (ng : Bool) (z : Value) (w : World) (hZ : BI w bz ng z) (h : ZIs base w z A cap) (hA : A < 9223372036854775808) :
    Calls Tryf.prog 19 #[.pointer (some ⟨bz, 0, none⟩)] w fun e w' => e = .returned (.int .i64 (if ng then -(A : Int) else A)) ∧ w' = w := by
  have c0 := hZ.c0
  have c1 := hZ.c1
  have hl := low64_any _ base A cap w h
  clear h
  cases ng
  all_goals (
    go_enter Tryf.func19, Tryf.ntmps19
    go_wp2_with fail
    refine hl.mono ?_
    rintro e w1 ⟨rfl, hw⟩
    rw [hw]; clear hw w1
    go_wp2_with fail
    go_ret
    refine ⟨?_, rfl⟩
    go_num)
end Go.Proofs.Qxb6002384aFmt
