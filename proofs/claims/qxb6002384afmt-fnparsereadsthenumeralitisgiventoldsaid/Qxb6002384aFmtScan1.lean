/-
  THE WALKS of ReadByte at the end, UnreadByte, scanSign, maxPow, pow.
-/
import Derived.Test.Qxb6002384aFmtRead
import Derived.Handy
set_option linter.unusedVariables false
namespace Go.Proofs.Qxb6002384aFmt
open Go.RowKit

set_option maxHeartbeats 1000000 in
theorem readByte_end (b : Nat) (s : ByteArray) (v : Value) (w : World) (h : Rd w b s s.size) (hv : Eof w v) (hb : b ≠ 1) (hs : s.size ≤ 2 ^ 40) :
    Calls Tryf.prog 89 #[.pointer (some ⟨b, 0, none⟩)] w fun e w' => e = .returned (.tuple #[.int .u8 0, v]) ∧ Rd w' b s s.size ∧ w.grownBy w' (some b) := by
  obtain ⟨pr, h⟩ := h
  have h0 : w.cell? ⟨b, 0, none⟩ = some (.string s) := by rw [Lib.cell_of_heap h]; rfl
  have h1 : w.cell? ⟨b, 1, none⟩ = some (.int .i64 s.size) := by rw [Lib.cell_of_heap h]; rfl
  have h2 : w.cell? ⟨b, 2, none⟩ = some (.int .i64 pr) := by rw [Lib.cell_of_heap h]; rfl
  have f1 : w.frozen? ⟨b, 1, none⟩ = false := Lib.frozen_of_heap h 1
  have f2 : w.frozen? ⟨b, 2, none⟩ = false := Lib.frozen_of_heap h 2
  have he : w.cell? ⟨1, 0, none⟩ = some v := hv
  have hlt : decide ((s.size : Int) ≤ (s.size : Int)) = true := by simp
  have hb' : ¬ (1 = b) := fun e => hb e.symm
  go_enter Tryf.func89, Tryf.ntmps89
  go_wp2
  go_quiet (fail)
  go_wp2
  go_quiet (fail)
  go_wp2
  go_ret2
  refine ⟨rfl, ⟨-1, ?_⟩, ?_⟩
  · simp [World.setCell, Array.getElem?_modify, h]
  · exact grown_drew (grown_drew (grown_set _ _ _ _) _) _

set_option maxHeartbeats 1000000 in
theorem unreadByte_ok (b : Nat) (s : ByteArray) (i : Nat) (w : World) (h : Rd w b s ((i + 1 : Nat) : Int)) (hi : i < 2 ^ 40) :
    Calls Tryf.prog 90 #[.pointer (some ⟨b, 0, none⟩)] w fun e w' => e = .returned .nilIface ∧ Rd w' b s i ∧ w.grownBy w' (some b) := by
  obtain ⟨pr, h⟩ := h
  have h1 : w.cell? ⟨b, 1, none⟩ = some (.int .i64 ((i + 1 : Nat) : Int)) := by rw [Lib.cell_of_heap h]; rfl
  have h2 : w.cell? ⟨b, 2, none⟩ = some (.int .i64 pr) := by rw [Lib.cell_of_heap h]; rfl
  have f1 : w.frozen? ⟨b, 1, none⟩ = false := Lib.frozen_of_heap h 1
  have f2 : w.frozen? ⟨b, 2, none⟩ = false := Lib.frozen_of_heap h 2
  have hlt : ¬ (((i + 1 : Nat) : Int) ≤ 0) := by omega
  go_enter Tryf.func90, Tryf.ntmps90
  go_wp2
  go_ret
  refine ⟨rfl, ⟨-1, ?_⟩, ?_⟩
  · simp [World.setCell, Array.getElem?_modify, h]
  · exact grown_trans (grown_set _ _ _ _) (grown_set _ _ _ _) (fun k hk => .inr (by simpa using hk))

set_option maxHeartbeats 1000000 in
theorem maxPow10 (w : World) :
    Calls Tryf.prog 48 #[.int .u64 10] w fun e w' => e = .returned (.tuple #[.int .u64 10000000000000000000, .int .i64 19]) ∧ w' = w := by
  go_enter Tryf.func48, Tryf.ntmps48
  go_wp2
  go_rounds 20
  all_goals (go_ret2; exact ⟨rfl, rfl⟩)

set_option maxHeartbeats 1000000 in
theorem pow_ten (n : Nat) (h : n ≤ 18) (w : World) :
    Calls Tryf.prog 50 #[.int .u64 10, .int .i64 n] w fun e w' => e = .returned (.int .u64 (10 ^ n : Nat)) ∧ w' = w := by
  have : n = 0 ∨ n = 1 ∨ n = 2 ∨ n = 3 ∨ n = 4 ∨ n = 5 ∨ n = 6 ∨ n = 7 ∨ n = 8 ∨ n = 9 ∨ n = 10 ∨ n = 11 ∨ n = 12 ∨ n = 13 ∨ n = 14 ∨ n = 15 ∨ n = 16 ∨ n = 17 ∨ n = 18 := by omega
  rcases this with h | h | h | h | h | h | h | h | h | h | h | h | h | h | h | h | h | h | h <;> subst h <;>
  · go_enter Tryf.func50, Tryf.ntmps50
    go_wp2
    go_rounds 6
    all_goals (go_ret; exact ⟨rfl, rfl⟩)

set_option maxHeartbeats 1000000 in
theorem scanSign_digit (b : Nat) (s : ByteArray) (w : World) (h : Rd w b s 0) (h0 : 0 < s.size) (hs : s.size ≤ 2 ^ 40) (hd : 48 ≤ s[0].toNat) :
    Calls Tryf.prog 42 #[.iface 57 (.pointer (some ⟨b, 0, none⟩))] w fun e w' => e = .returned (.tuple #[.bool false, .nilIface]) ∧ Rd w' b s 0 ∧ w.grownBy w' (some b) := by
  have c1 : ((s[0].toNat : Int) == 45) = false := by simp; omega
  have c2 : ((s[0].toNat : Int) == 43) = false := by simp; omega
  go_enter Tryf.func42, Tryf.ntmps42
  go_wp2_with fail

  refine (readByte_ok b s 0 w h h0 hs).mono ?_
  rintro e w1 ⟨rfl, h1, g1⟩
  go_wp2_with fail
  refine (unreadByte_ok b s 0 _ h1 (by omega)).mono ?_
  rintro e w2 ⟨rfl, h2, g2⟩
  go_wp2_with fail
  go_ret2
  exact ⟨rfl, h2, grown_trans g1 g2 (fun k hk => .inr hk)⟩
end Go.Proofs.Qxb6002384aFmt
