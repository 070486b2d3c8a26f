/-
  THE WALK of math/big's nat.scan over a text of digits.
-/
import Derived.Test.Qxb6002384aFmtScan1
import Derived.Test.Qxb6002384aFmtNats
import Derived.LaidEql
import Derived.Stop.IfaceNil
set_option linter.unusedVariables false
namespace Go.Proofs.Qxb6002384aFmt
open Go.RowKit

/-- The number that digits read as, behind what stands before them. -/
def num (acc : Nat) (L : List UInt8) : Nat := L.foldl (fun a c => a * 10 + (c.toNat - 48)) acc
def Digits (L : List UInt8) : Prop := ∀ c ∈ L, 48 ≤ c.toNat ∧ c.toNat ≤ 57
theorem num_take (L : List UInt8) (k : Nat) (h : k < L.length) : num 0 (L.take (k + 1)) = num 0 (L.take k) * 10 + (L[k].toNat - 48) := by
  rw [List.take_succ_eq_append_getElem h]
  unfold num
  rw [List.foldl_append]
  rfl

/-- What io.EOF holds. -/
abbrev eofAt (ea : Addr) : Value := .iface 62 (.pointer (some ea))
theorem eof_nil (ea : Addr) (w : World) : (binOp .eql 27 (eofAt ea) .nilIface).run Tryf.prog w = .ok (.bool false) w := run_eql_iface_nil _ 27 (by kernel_rfl) _ _
theorem info62 : (Tryf.prog.info? 62).map (fun i => i.comparable) = some true := by kernel_rfl
theorem info64 : (Tryf.prog.info? 64).isSome = true := by kernel_rfl
theorem eof_eof (ea : Addr) (w : World) : (binOp .eql 27 (eofAt ea) (eofAt ea)).run Tryf.prog w = .ok (.bool true) w := by
  obtain ⟨i, hi, hc⟩ := Option.map_eq_some_iff.1 info62
  obtain ⟨j, hj⟩ := Option.isSome_iff_exists.1 info64
  exact run_eql_iface_ptr_same w ea Tryf.underlying27 Tryf.underlying62 hi hc hj

/-- What the scanner stands at: k digits are read. -/
def Look (w : World) (b : Nat) (s : ByteArray) (ea : Addr) (k : Nat) (ch er : Value) : Prop :=
  (∃ h : k < s.size, ch = .int .u8 (s[k].toNat : Int) ∧ er = .nilIface ∧ Rd w b s ((k + 1 : Nat) : Int)) ∨ (k = s.size ∧ er = eofAt ea ∧ Rd w b s s.size)

theorem Eof.grown {w w' : World} {v : Value} {b : Nat} (h : Eof w v) (hg : w.grownBy w' (some b)) (hb : b ≠ 1) : Eof w' v := by
  unfold Eof at *
  have h1 : 1 < w.heap.size := by
    rcases Nat.lt_or_ge 1 w.heap.size with h2 | h2
    · exact h2
    · exfalso
      have : w.heap[1]? = none := Array.getElem?_eq_none h2
      simp [World.cell?, this] at h
  have := hg.block 1 h1 (fun e => hb (Option.some.inj e).symm)
  unfold World.cell? at *
  simp only at *
  rw [this]
  exact h

theorem readByte_look (b : Nat) (s : ByteArray) (ea : Addr) (k : Nat) (w : World) (h : Rd w b s k) (hk : k ≤ s.size) (hE : Eof w (eofAt ea)) (hb : b ≠ 1) (hs : s.size ≤ 2 ^ 40) :
    Calls Tryf.prog 89 #[.pointer (some ⟨b, 0, none⟩)] w fun e w' => ∃ ch er, e = .returned (.tuple #[ch, er]) ∧ Look w' b s ea k ch er ∧ w.grownBy w' (some b) := by
  rcases Nat.lt_or_ge k s.size with h1 | h1
  · refine (readByte_ok b s k w h h1 hs).mono ?_
    rintro e w' ⟨rfl, h2, h3⟩
    exact ⟨_, _, rfl, .inl ⟨h1, rfl, rfl, h2⟩, h3⟩
  · have : k = s.size := by omega
    subst this
    refine (readByte_end b s _ w h hE hb hs).mono ?_
    rintro e w' ⟨rfl, h2, h3⟩
    exact ⟨_, _, rfl, .inr ⟨rfl, rfl, h2⟩, h3⟩

/-- A nat of at most one word, in a block of its own. -/
def ZIs (base : Nat) (w : World) (z : Value) (A cap : Nat) : Prop :=
  (A = 0 ∧ z = .slice none 0 0) ∨ (0 < A ∧ ∃ zb, base ≤ zb ∧ zb < w.heap.size ∧ z = .slice (some ⟨zb, 0, none⟩) 1 cap ∧ w.cell? ⟨zb, 0, none⟩ = some (.int .u64 A))
theorem ZIs.grown {base : Nat} {w w' : World} {z : Value} {A cap b : Nat} (h : ZIs base w z A cap) (hg : w.grownBy w' (some b)) (hb : b < base) : ZIs base w' z A cap := by
  rcases h with h | ⟨h0, zb, h1, h2, h3, h4⟩
  · exact .inl h
  · refine .inr ⟨h0, zb, h1, Nat.lt_of_lt_of_le h2 hg.size, h3, ?_⟩
    have := hg.block zb h2 (fun e => by have := Option.some.inj e; omega)
    unfold World.cell? at *
    simp only at *
    rw [this]
    exact h4

theorem mulAddWW_nil (y v base : Nat) (hy : 0 < y) (w : World) (hb : base ≤ w.heap.size) : Calls Tryf.prog 49 #[.slice none 0 0, .slice none 0 0, .int .u64 y, .int .u64 v] w fun e w' => ∃ z, e = .returned z ∧ ZIs base w' z v 1 ∧ w.grownBy w' none := by
  rcases Nat.eq_zero_or_pos v with h | h
  · subst h
    refine (mulAddWW_nil_zero y hy w).mono ?_
    rintro e w' ⟨rfl, rfl⟩
    exact ⟨_, rfl, .inl ⟨rfl, rfl⟩, grown_refl _ _⟩
  · refine (mulAddWW_nil_pos y v h w).mono ?_
    rintro e w' ⟨rfl, rfl⟩
    refine ⟨_, rfl, .inr ⟨h, _, hb, by simp, rfl, ?_⟩, ?_⟩
    · rw [Lib.cell_of_heap (heap_alloc_new w _)]; rfl
    · exact ⟨rfl, rfl, rfl, by simp, fun k hk _ => heap_alloc_old w _ hk⟩

/-- Behind k digits: the words taken in, the digits still to come in. -/
def Inv (s : ByteArray) (base k j A d : Nat) (w : World) (z : Value) : Prop :=
  ((j = k ∧ A = 0) ∨ k = j + 19) ∧ ZIs base w z A 1 ∧ A * 10 ^ j + d = num 0 (s.data.toList.take k) ∧ d < 10 ^ j ∧ j ≤ 18
end Go.Proofs.Qxb6002384aFmt
