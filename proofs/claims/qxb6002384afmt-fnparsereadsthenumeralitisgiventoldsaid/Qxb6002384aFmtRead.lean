/-
  THE WALKS of strings.Reader's ReadByte, UnreadByte, NewReader; of scanSign.
-/
import Derived.Test.Qxb6002384aFmtRows
import Derived.Test.Qxb6002384aFmtShelf
import Derived.WalkKit
import Derived.WalkSpells
import Derived.WalkLawsBesides
import Derived.Deep.LoopGhost
import Derived.Deep.QuietTactic
import Derived.BigQuiet
import Derived.Lib.Builder
set_option linter.unusedVariables false
namespace Go.Proofs.Qxb6002384aFmt
open Go.RowKit

theorem hid {p : Prop} (h : p) : Hid p := h

/-- The reader, in block b: over s, at place i. -/
def Rd (w : World) (b : Nat) (s : ByteArray) (i : Int) : Prop := ∃ pr : Int, w.heap[b]? = some (.cells #[.string s, .int .i64 i, .int .i64 pr] 72 (0, 0))

/-- io.EOF's variable holds this value. -/
def Eof (w : World) (v : Value) : Prop := w.cell? ⟨1, 0, none⟩ = some v

theorem grown_trans {w w1 w2 : World} {r g : Option Nat} (h : w.grownBy w1 r) (h2 : w1.grownBy w2 g) (hg : ∀ k, g = some k → w.heap.size ≤ k ∨ r = some k) : w.grownBy w2 r :=
  ⟨h2.os.trans h.os, h2.tape.trans h.tape, h2.output.trans h.output, Nat.le_trans h.size h2.size, fun k hk hne => (h2.block k (Nat.lt_of_lt_of_le hk h.size) (fun e => by
    rcases hg k e.symm with h3 | h3
    · omega
    · exact hne h3.symm)).trans (h.block k hk hne)⟩
theorem grown_refl (w : World) (r : Option Nat) : w.grownBy w r := ⟨rfl, rfl, rfl, Nat.le_refl _, fun _ _ _ => rfl⟩
theorem grown_set (w : World) (b i : Nat) (v : Value) : w.grownBy (w.setCell ⟨b, i, none⟩ v) (some b) :=
  ⟨rfl, rfl, rfl, by simp, fun k _ hk => Below.heap_setCell _ _ _ _ (fun e => hk (by simp [e]))⟩
theorem grown_drew {w w' : World} {r : Option Nat} (h : w.grownBy w' r) (n : Nat) : w.grownBy (w'.drewN n) r := ⟨h.os, h.tape, h.output, h.size, h.block⟩

set_option maxHeartbeats 400000 in
theorem newReader_any (s : ByteArray) (w : World) :
    Calls Tryf.prog 31 #[.string s] w fun e w' => e = .returned (.pointer (some ⟨w.heap.size, 0, none⟩)) ∧ Rd w' w.heap.size s 0 ∧ w' = w.alloc (.cells #[.string s, .int .i64 0, .int .i64 (-1)] 72) := by
  go_enter Tryf.func31, Tryf.ntmps31
  go_wp2
  go_ret
  exact ⟨rfl, ⟨-1, heap_alloc_new w _⟩, rfl⟩

set_option maxHeartbeats 1000000 in
theorem readByte_ok (b : Nat) (s : ByteArray) (i : Nat) (w : World) (h : Rd w b s i) (hi : i < s.size) (hs : s.size ≤ 2 ^ 40) :
    Calls Tryf.prog 89 #[.pointer (some ⟨b, 0, none⟩)] w fun e w' => e = .returned (.tuple #[.int .u8 s[i].toNat, .nilIface]) ∧ Rd w' b s ((i + 1 : Nat) : Int) ∧ w.grownBy w' (some b) := by
  obtain ⟨pr, h⟩ := h
  have h0 : w.cell? ⟨b, 0, none⟩ = some (.string s) := by rw [Lib.cell_of_heap h]; rfl
  have h1 : w.cell? ⟨b, 1, none⟩ = some (.int .i64 i) := by rw [Lib.cell_of_heap h]; rfl
  have h2 : w.cell? ⟨b, 2, none⟩ = some (.int .i64 pr) := by rw [Lib.cell_of_heap h]; rfl
  have f1 : w.frozen? ⟨b, 1, none⟩ = false := Lib.frozen_of_heap h 1
  have f2 : w.frozen? ⟨b, 2, none⟩ = false := Lib.frozen_of_heap h 2
  have hlt : decide ((s.size : Int) ≤ (i : Int)) = false := by simp; omega
  have i1 : (0 : Int) ≤ (i : Int) := by omega
  have i2 : (i : Int) < (s.size : Int) := by omega
  go_enter Tryf.func89, Tryf.ntmps89
  go_wp2
  go_quiet (fail)
  go_wp2
  go_quiet (fail)
  go_wp2
  go_ret2
  refine ⟨rfl, ⟨-1, ?_⟩, ?_⟩
  · simp [World.setCell, Array.getElem?_modify, h]
  · exact grown_drew (grown_trans (grown_set _ _ _ _) (grown_set _ _ _ _) (fun k hk => .inr (by simpa using hk))) _
end Go.Proofs.Qxb6002384aFmt
