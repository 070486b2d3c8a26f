/-
  THE WALKS of math/big's Int: scan, setFromScanner, SetString, Neg, IsInt64, Int64.
-/
import Derived.Test.Qxb6002384aFmtScan3
set_option linter.unusedVariables false
namespace Go.Proofs.Qxb6002384aFmt
open Go.RowKit

/-- The big.Int in block b. -/
def BI (w : World) (b : Nat) (neg : Bool) (z : Value) : Prop := w.heap[b]? = some (.cells #[.bool neg, z] 47 (0, 0))
theorem BI.c0 {w : World} {b : Nat} {neg : Bool} {z : Value} (h : BI w b neg z) : w.cell? ⟨b, 0, none⟩ = some (.bool neg) := by rw [Lib.cell_of_heap h]; rfl
theorem BI.c1 {w : World} {b : Nat} {neg : Bool} {z : Value} (h : BI w b neg z) : w.cell? ⟨b, 1, none⟩ = some z := by rw [Lib.cell_of_heap h]; rfl
theorem BI.f {w : World} {b : Nat} {neg : Bool} {z : Value} (h : BI w b neg z) (i : Nat) : w.frozen? ⟨b, i, none⟩ = false := Lib.frozen_of_heap h i
theorem BI.set0 {w : World} {b : Nat} {neg : Bool} {z : Value} (h : BI w b neg z) (x : Bool) : BI (w.setCell ⟨b, 0, none⟩ (.bool x)) b x z := by
  unfold BI at *
  simp [World.setCell, Array.getElem?_modify, h]
theorem BI.set1 {w : World} {b : Nat} {neg : Bool} {z : Value} (h : BI w b neg z) (x : Value) : BI (w.setCell ⟨b, 1, none⟩ x) b neg x := by
  unfold BI at *
  simp [World.setCell, Array.getElem?_modify, h]
theorem BI.grown {w w' : World} {b : Nat} {neg : Bool} {z : Value} {r : Option Nat} (h : BI w b neg z) (hg : w.grownBy w' r) (hb : b < w.heap.size) (hr : r ≠ some b) : BI w' b neg z :=
  (hg.block b hb (fun e => hr e.symm)).trans h
theorem Rd.set {w : World} {b c i : Nat} {s : ByteArray} {k : Int} {x : Value} (h : Rd w b s k) (hne : b ≠ c) : Rd (w.setCell ⟨c, i, none⟩ x) b s k := by
  obtain ⟨pr, h⟩ := h
  exact ⟨pr, (Below.heap_setCell w _ _ _ hne).trans h⟩
theorem ZIs.set {base : Nat} {w : World} {z : Value} {A cap b i : Nat} {x : Value} (h : ZIs base w z A cap) (hb : b < base) : ZIs base (w.setCell ⟨b, i, none⟩ x) z A cap := h.grown (grown_set _ _ _ _) hb
theorem ZIs.lower {base base' : Nat} {w : World} {z : Value} {A cap : Nat} (h : ZIs base w z A cap) (hb : base' ≤ base) : ZIs base' w z A cap := by
  rcases h with h | ⟨h0, zb, h1, h2⟩
  · exact .inl h
  · exact .inr ⟨h0, zb, Nat.le_trans hb h1, h2⟩
/-- How long it is. -/
theorem ZIs.len {base : Nat} {w : World} {z : Value} {A cap : Nat} (h : ZIs base w z A cap) : ∃ a n c, z = .slice a n c ∧ (n = 0 ∨ n = 1) ∧ (n = 0 ↔ A = 0) := by
  rcases h with ⟨h0, h⟩ | ⟨h0, zb, h1, h2, h3, h4⟩
  · exact ⟨_, _, _, h, .inl rfl, by omega⟩
  · exact ⟨_, _, _, h3, .inr rfl, by omega⟩

set_option maxRecDepth 100000 in
set_option maxHeartbeats 4000000 in
theorem intScan (b bz base : Nat) (s : ByteArray) (ea : Addr) (w : World) (hR : Rd w b s 0) (hZ : BI w bz false (.slice none 0 0)) (hE : Eof w (eofAt ea)) (hbase : base ≤ w.heap.size) (h1b : 1 < base) (hb : base ≤ b) (hbz : base ≤ bz) (hne : b ≠ bz) (hbs : b < w.heap.size) (hbzs : bz < w.heap.size) (hn0 : 0 < s.size) (hn : s.size ≤ 37) (hD : Digits s.data.toList) (hlt : num 0 s.data.toList < 18446744073709551616) :
    Calls Tryf.prog 36 #[.pointer (some ⟨bz, 0, none⟩), .iface 57 (.pointer (some ⟨b, 0, none⟩)), .int .i64 10] w fun e w' => ∃ z cap, e = .returned (.tuple #[.pointer (some ⟨bz, 0, none⟩), .int .i64 10, .nilIface]) ∧ BI w' bz false z ∧ ZIs w.heap.size w' z (num 0 s.data.toList) cap ∧ Rd w' b s s.size ∧ Below base w w' := by
  have hd0 : 48 ≤ s[0].toNat := (hD _ (by simp [ByteArray.getElem_eq_getElem_data])).1
  have hD' := hid hD
  have hlt' := hid hlt
  clear hD hlt
  go_enter Tryf.func36, Tryf.ntmps36
  go_wp2_with fail
  refine (scanSign_digit b s w hR hn0 (by omega) hd0).mono ?_
  rintro e w1 ⟨rfl, h1, g1⟩
  have hZ1 : BI w1 bz false (.slice none 0 0) := hZ.grown g1 hbzs (fun e => hne (Option.some.inj e))
  have hE1 : Eof w1 (eofAt ea) := hE.grown g1 (by omega)
  have hb1 : Below base w w1 := (Below.refl _ _).grown g1 hbase (fun k h => by have := Option.some.inj h; omega)
  have c0 := hZ1.c0
  have c1 := hZ1.c1
  go_wp2_with fail
  refine (natScan b s ea w1 h1 hE1 (by omega) (Nat.lt_of_lt_of_le hbs g1.size) hn0 hn hD'.out hlt'.out).mono ?_
  rintro e w2 ⟨z, cap, rfl, hz, h2, g2⟩
  clear c0 c1
  have hZ2 : BI w2 bz false (.slice none 0 0) := hZ1.grown g2 (Nat.lt_of_lt_of_le hbzs g1.size) (fun e => hne (Option.some.inj e))
  have hb2 : Below base w w2 := hb1.grown g2 (Nat.le_trans hbase g1.size) (fun k h => by have := Option.some.inj h; omega)
  obtain ⟨za, zn, zc, rfl, hzn, hzA⟩ := hz.len
  have c0 := hZ2.c0
  have c1 := hZ2.c1
  have f0 := hZ2.f 0
  have f1 := hZ2.f 1
  have hz' := hid hz
  clear hz hzA
  rcases hzn with rfl | rfl
  all_goals (
    go_wp2_with fail
    refine bodyPost_ret (v := .tuple #[.pointer (some ⟨bz, 0, none⟩), .int .i64 10, .nilIface]) (by simp [results, Tryf.results36, go_sem]) rfl ?_
    refine ⟨_, cap, rfl, (hZ2.set1 _).set0 false, ?_, (h2.set hne).set hne, (hb2.setCell hbz _).setCell hbz _⟩
    exact ((hz'.out.set (by have := g1.size; omega)).set (by have := g1.size; omega)).lower g1.size)
end Go.Proofs.Qxb6002384aFmt
