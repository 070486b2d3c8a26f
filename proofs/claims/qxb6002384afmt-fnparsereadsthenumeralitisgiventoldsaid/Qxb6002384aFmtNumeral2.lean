/-
  THE WALK of the law's own numeralOf, itself.
-/
import Derived.Test.Qxb6002384aFmtNumeral
set_option linter.unusedVariables false
namespace Go.Proofs.Qxb6002384aFmt
open Go.RowKit

/-- Behind k turns: nk is left, D is written. -/
def NumInv (n nk : Nat) (D : List UInt8) : Prop := D.length ≤ 9 ∧ nk < 10 ^ (10 - D.length) ∧ numeral n = numeral nk ++ D
theorem NumInv.more {n nk : Nat} {D : List UInt8} (h : NumInv n nk D) (h0 : nk / 10 ≠ 0) : NumInv n (nk / 10) (dig nk :: D) := by
  obtain ⟨h1, h2, h3⟩ := h
  have h9 : D.length ≠ 9 := by
    intro e
    rw [e] at h2
    simp at h2
    omega
  refine ⟨by simp; omega, ?_, ?_⟩
  · have e : 10 - D.length = (10 - (dig nk :: D).length) + 1 := by simp; omega
    rw [e, Nat.pow_succ] at h2
    omega
  · rw [h3, numeral_eq nk, dif_neg h0]
    simp
theorem NumInv.last {n nk : Nat} {D : List UInt8} (h : NumInv n nk D) (h0 : nk / 10 = 0) : numeral n = dig nk :: D := by
  rw [h.2.2, numeral_eq nk, dif_pos h0]
  rfl

set_option maxRecDepth 100000 in
set_option maxHeartbeats 1000000 in
theorem numeralOf_ok (v : Value) (L : List UInt8) (n base : Nat) (w : World) (hown : w.ownsRow base 5 1 v L.length (Lib.byteCells L)) (hbase : base ≤ w.heap.size) (hn : n < 10 ^ 10) (hL : L.length ≤ 1000) :
    Calls Tryf.prog 8 #[v, .int .u64 n] w fun e w' => ∃ v', e = .returned v' ∧ w'.ownsRow base 5 1 v' (L ++ numeral n).length (Lib.byteCells (L ++ numeral n)) ∧ Below base w w' := by
  obtain ⟨i0, hi, hz0, hz1, hz2⟩ := info_parts info5
  have hvT : v.ownBlock ≠ some w.heap.size := fun e => by have := (hown.lt _ e).2; omega
  have hownA := hid (hown.alloc (.cells #[.int .u8 0, .int .u8 0, .int .u8 0, .int .u8 0, .int .u8 0, .int .u8 0, .int .u8 0, .int .u8 0, .int .u8 0, .int .u8 0, .int .u8 0, .int .u8 0, .int .u8 0, .int .u8 0, .int .u8 0, .int .u8 0, .int .u8 0, .int .u8 0, .int .u8 0, .int .u8 0] 50))
  have hA0 : Hid (Arr (w.alloc (.cells #[.int .u8 0, .int .u8 0, .int .u8 0, .int .u8 0, .int .u8 0, .int .u8 0, .int .u8 0, .int .u8 0, .int .u8 0, .int .u8 0, .int .u8 0, .int .u8 0, .int .u8 0, .int .u8 0, .int .u8 0, .int .u8 0, .int .u8 0, .int .u8 0, .int .u8 0, .int .u8 0] 50)) w.heap.size []) := ⟨_, heap_alloc_new w _, rfl, fun t h => absurd h (by simp)⟩
  have hB0 := hid ((Below.refl base w).alloc hbase (.cells #[.int .u8 0, .int .u8 0, .int .u8 0, .int .u8 0, .int .u8 0, .int .u8 0, .int .u8 0, .int .u8 0, .int .u8 0, .int .u8 0, .int .u8 0, .int .u8 0, .int .u8 0, .int .u8 0, .int .u8 0, .int .u8 0, .int .u8 0, .int .u8 0, .int .u8 0, .int .u8 0] 50))
  clear hown
  have hn' := hid hn
  clear hn
  go_enter Tryf.func8, Tryf.ntmps8
  go_wp2_with fail
  go_loopw [6, 1, 7] (fun v6 v1 v7 wr => ∃ (i nk : Nat) (D : List UInt8), i + D.length = 20 ∧ v6 = .int .i64 i ∧ v1 = .int .u64 nk ∧ v7 = .int .i64 D.length ∧ nk < 18446744073709551616 ∧ NumInv n nk D ∧ Arr wr w.heap.size D ∧ wr.ownsRow base 5 1 v L.length (Lib.byteCells L) ∧ Below base w wr ∧ w.heap.size < wr.heap.size) (fun v6 _ _ _ => (intOf v6).toNat)
  case atStart =>
    have hnn := hn'.out
    exact ⟨20, n, [], rfl, rfl, rfl, rfl, by omega, ⟨by simp, by simpa using hnn, by simp⟩, hA0.out, hownA.out, hB0.out, by simp⟩
  case round =>
    clear hA0 hownA hB0
    obtain ⟨i, nk, D, hiD, rfl, rfl, rfl, hnk, hN, hA, hO, hB, hS⟩ := hrel
    obtain ⟨j, rfl⟩ : ∃ j, i = j + 1 := ⟨i - 1, by have := hN.1; omega⟩
    have hlt : ((D.length : Nat) : Int) < 20 := by omega
    have ej : ((j + 1 : Nat) : Int) = (j : Int) + 1 := by omega
    rw [ej]
    clear ej
    obtain ⟨u, hu⟩ := hA.cell j (by omega)
    have hf := hA.frozen j
    have hA2 := hid (hA.cons j (by omega) (dig nk))
    have hO2 := hid (ownsRow_setCell_other hO (a := ⟨w.heap.size, j, none⟩) hvT (.int .u8 ((dig nk).toNat : Int)))
    have hB2 := hid (hB.setCell (p := ⟨w.heap.size, j, none⟩) hbase (.int .u8 ((dig nk).toNat : Int)))
    rw [dig_nat] at hA2 hO2 hB2
    have hN' := hid hN
    clear hA hO hB hN
    by_cases h0 : nk / 10 = 0
    · have c0 : ((nk : Int) / 10 == 0) = true := by simp; omega
      have hE := hN'.out.last h0
      have hEl : j + (numeral n).length = 20 := by rw [hE]; simp; omega
      rw [← hE] at hA2
      clear hE hN' hn'
      go_wp2_with fail
      go_loopw [0, 6] (fun v0 v6 wq => ∃ (p : Nat), p ≤ (numeral n).length ∧ v6 = .int .i64 ((j + p : Nat) : Int) ∧ wq.ownsRow base 5 1 v0 (L ++ (numeral n).take p).length (Lib.byteCells (L ++ (numeral n).take p)) ∧ Arr wq w.heap.size (numeral n) ∧ Below base w wq ∧ w.heap.size < wq.heap.size) (fun _ v6 _ => 20 - (intOf v6).toNat)
      case atStart => exact ⟨0, by omega, rfl, by simpa using hO2.out, hA2.out, hB2.out, by simpa using hS⟩
      case round =>
        clear hO2 hA2 hB2 hS
        obtain ⟨p, hp, rfl, hO, hA, hB, hS⟩ := hrel
        by_cases hlt : p < (numeral n).length
        · have hcell : wr.cell? ⟨w.heap.size, j + p, none⟩ = some (.int .u8 ((numeral n)[p].toNat : Int)) := by
            have := hA.at p hlt
            rw [show 20 - (numeral n).length + p = j + p by omega] at this
            exact this
          have hA' := hid hA
          clear hA
          go_wp2_with (at_builtin; refine wpList_append_own _ rfl _ _ 32 rfl base 5 i0 (.int .u8 0) 1 1 Tryf.underlying32 hi hz0 hz1 hz2 rfl (by decide) _ _ _ rfl (hO.alloc _) ⟨wr.heap.size, 0, none⟩ 1 1 [.int .u8 (numeral n)[p].toNat] rfl rfl ?c1 ?c2 ?c3 ?c4 ?c5 ?_)
          case c1 =>
            intro j u hj
            match j, hj with
            | 0, hj => simp at hj; subst hj; simp [Addr.add]
          case c2 => intro u hu; simp at hu; subst hu; rfl
          case c3 => have := List.length_take_le p (numeral n); unfold maxLen; simp; omega
          case c4 => simp; omega
          case c5 => simp; omega
          intro v2 w2 hown2 hgrow2 _
          have hB2 : Below base w w2 := (hB.alloc (by omega) _).grown hgrow2 (by simp; omega) (fun k hk => (hO.lt k hk).1)
          obtain ⟨cs, hcs, _⟩ := hA'.out
          have hne2 := Lib.ownBlock_ne hO hcs (by decide)
          have hA2 : Arr (wr.alloc (.cells #[.int .u8 (numeral n)[p].toNat] 5)) w.heap.size (numeral n) := hA'.out.kept (r := none) ⟨rfl, rfl, rfl, by simp, fun k hk _ => heap_alloc_old wr _ hk⟩ (by simp) hS
          have hA3 := hA2.kept hgrow2 hne2 (by simp; omega)
          have hS2 : w.heap.size < w2.heap.size := Nat.lt_of_lt_of_le (by simp; omega) hgrow2.size
          have hO4 : w2.ownsRow base 5 1 v2 (L ++ (numeral n).take (p + 1)).length (Lib.byteCells (L ++ (numeral n).take (p + 1))) := by
            rw [List.take_succ_eq_append_getElem hlt, ← List.append_assoc, byteCells_snoc, show (L ++ List.take p (numeral n) ++ [(numeral n)[p]]).length = L.length + p + 1 from by simp; omega]
            exact hown2
          clear hown2 hgrow2 hA2 hcs hne2 hO hA'
          have hA3' := hid hA3
          clear hA3
          go_wp2_with fail
          go_roundw
          case rel =>
           exact ⟨p + 1, by omega, by go_num, hO4, hA3'.out, hB2, hS2⟩
          case measure => simp [intOf]; omega
        · have hpe : p = (numeral n).length := by omega
          subst hpe
          clear hA
          rw [List.take_of_length_le (Nat.le_refl _)] at hO
          go_wp2_with fail
          go_ret
          exact ⟨_, rfl, hO, hB⟩
    · have c0 : ((nk : Int) / 10 == 0) = false := by simp; omega
      go_wp2_with fail
      go_roundw
      case rel =>
        exact ⟨j, nk / 10, dig nk :: D, by simp; omega, by go_num, by go_num, by simp, by omega, hN'.out.more h0, hA2.out, hO2.out, hB2.out, by simpa using hS⟩
      case measure => simp [intOf]
end Go.Proofs.Qxb6002384aFmt
