/-
  A START AT WHICH THE LISTED VARIABLES HOLD WHAT THEY ARE SAID TO HOLD.
-/
import Derived.Test.Qxb6002384aFmtRows
import Derived.Deep.DeepWitnessRowRef
import Derived.Lib.LaidIn
import Derived.ProofKit
namespace Go.Proofs.Qxb6002384aFmt

abbrev lawSpec : OpenSpec := OpenSpec.ofChange Rows.fnParseReadsTheNumeralItIsGivenSpec
abbrev lawArgs : Array Value := #[.bool false, .int .u8 0, .int .u32 0, .bool false, .int .u8 0, .int .u16 0]

def laidWorldOf (P : Program) (os : Os) : World :=
  let N := (World.settled P os).heap.size
  let w0 := World.holding P os ⟨#[
    .cells #[.string ⟨#[69, 79, 70]⟩] 64,
    .cells #[.string ⟨#[110, 117, 109, 98, 101, 114, 32, 104, 97, 115, 32, 110, 111, 32, 100, 105, 103, 105, 116, 115]⟩] 64,
    .cells #[.string ⟨#[39, 95, 39, 32, 109, 117, 115, 116, 32, 115, 101, 112, 97, 114, 97, 116, 101, 32, 115, 117, 99, 99, 101, 115, 115, 105, 118, 101, 32, 100, 105, 103, 105, 116, 115]⟩] 64,
    .cells #[.string ⟨#[116, 111, 111, 32, 108, 111, 110, 103, 32, 102, 111, 114, 32, 97, 32, 112, 108, 97, 105, 110, 32, 100, 101, 99, 105, 109, 97, 108]⟩] 64], #[], []⟩
  let put (h : Array Obj) (g : Nat) (cs : Array Value) : Array Obj := h.modify g fun
    | .cells _ t frozen => .cells cs t frozen
    | o => o
  let h0 := put (put w0.heap 1 #[.iface 62 (.pointer (some ⟨N, 0, none⟩))]) 4 #[.iface 62 (.pointer (some ⟨N + 1, 0, none⟩))]
  let h1 := put (put h0 3 #[.iface 62 (.pointer (some ⟨N + 2, 0, none⟩))]) 0 #[.iface 62 (.pointer (some ⟨N + 3, 0, none⟩))]
  { w0 with heap := h1 }

def sizeOf0 (P : Program) : Nat := (World.settled P default).heap.size
set_option maxRecDepth 1000000 in
theorem laid_in (os : Os) (args : Array Value) : LaidIn Tryf.prog ((laidWorldOf Tryf.prog os).forCall (fun _ _ => 0) ⟨#[], args, []⟩).memory Rows.fnParseReadsTheNumeralItIsGivenRow.laid [1, sizeOf0 Tryf.prog, 4, sizeOf0 Tryf.prog + 1, 3, sizeOf0 Tryf.prog + 2, 0, sizeOf0 Tryf.prog + 3] :=
  LaidIn.of_run [1, sizeOf0 Tryf.prog, 4, sizeOf0 Tryf.prog + 1, 3, sizeOf0 Tryf.prog + 2, 0, sizeOf0 Tryf.prog + 3] 10 (by kernel_rfl) (by kernel_rfl) (by kernel_rfl) (by kernel_rfl)

theorem witness_row (os : Os) {H : Type} (enc : TypeId × Value → H) :
    lawSpec.preRow enc Tryf.prog Tryf.f4 Rows.fnParseReadsTheNumeralItIsGivenRow.domain false Rows.fnParseReadsTheNumeralItIsGivenRow.laid ((laidWorldOf Tryf.prog os).forCall (fun _ _ => 0) ⟨#[], lawArgs, []⟩).memory lawArgs := by
  have hw : (DataW.whole enc Tryf.prog ((laidWorldOf Tryf.prog os).forCall (fun _ _ => 0) ⟨#[], lawArgs, []⟩).memory Tryf.f4.params.toList lawSpec.vars false lawArgs.toList 8).isSome = true := by kernel_rfl
  obtain ⟨⟨x1, x2, x3⟩, hx⟩ := Option.isSome_iff_exists.1 hw
  exact OpenSpec.preRow_of_cond 8 hx (by kernel_rfl) (fun k hk => by cases hk) (by kernel_rfl) (laid_in os _).met
end Go.Proofs.Qxb6002384aFmt
