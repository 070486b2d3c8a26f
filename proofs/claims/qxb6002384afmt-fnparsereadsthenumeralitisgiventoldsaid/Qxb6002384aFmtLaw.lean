/-
  THE WALK of the law.
-/
import Derived.Test.Qxb6002384aFmtZz
set_option linter.unusedVariables false
set_option linter.unusedSimpArgs false
namespace Go.Proofs.Qxb6002384aFmt
open Go.RowKit

theorem own_snoc {w : World} {B : Nat} {v : Value} (l : List UInt8) (c : UInt8) (l2 : List UInt8) (h2 : l2 = l ++ [c]) {n : Nat} (hn : n = l.length + 1) (h : w.ownsRow B 5 1 v n (Lib.byteCells l ++ [.int .u8 (c.toNat : Int)])) : w.ownsRow B 5 1 v l2.length (Lib.byteCells l2) := by
  subst h2
  subst hn
  rw [byteCells_snoc, List.length_append]
  exact h
theorem own_string {w : World} {B : Nat} {v : Value} {l : List UInt8} (h : w.ownsRow B 5 1 v l.length (Lib.byteCells l)) : (convert 32 9 v).run Tryf.prog w = .ok (.string ⟨l.toArray⟩) w := by
  rcases h.2 with ⟨rfl, h0⟩ | ⟨g, cap, cur, rfl, _⟩
  · obtain rfl : l = [] := List.length_eq_zero_iff.1 h0
    rw [run_convert_bytes_string w 32 9 5 none 0 0 Tryf.underlying32 Tryf.underlying5 Tryf.underlying9]
    simp [Conv.bytesToString]
    rfl
  · refine run_convert_bytes_back w 32 9 5 ⟨g, 0, none⟩ cap l Tryf.underlying32 Tryf.underlying5 Tryf.underlying9 fun j hj => ?_
    exact h.cells rfl j _ (by simp [Lib.byteCells, hj])
theorem own_slice {w : World} {B : Nat} {v : Value} {n : Nat} {xs : List Value} (h : w.ownsRow B 5 1 v n xs) : ∃ a c, v = .slice a n c := by
  rcases h.2 with ⟨rfl, h0⟩ | ⟨g, cap, cur, rfl, _⟩
  · exact ⟨_, _, by rw [h0]⟩
  · exact ⟨_, _, rfl⟩

set_option maxRecDepth 100000 in
set_option maxHeartbeats 2000000 in
theorem law_pos (lead whole zeros frac : Nat) (point : Bool) (ea : Addr) (w : World) (hl : lead ≤ 4) (hz : zeros ≤ 4) (hwh : whole < 4294967296) (hfr : frac < 65536) (hE : Eof w (eofAt ea)) (h2 : 2 < w.heap.size) :
    Calls Tryf.prog 4 #[.bool false, .int .u8 lead, .int .u32 whole, .bool point, .int .u8 zeros, .int .u16 frac] w fun e w' => e = .returned (.bool true) ∧ Below w.heap.size w w' := by
  obtain ⟨i0, hi, hz0, hz1, hz2⟩ := info_parts info5
  have hE' := hid hE
  clear hE
  have d1 : decide ((4 : Int) < (lead : Int)) = false := by simp; omega
  have d2 : decide ((4 : Int) < (zeros : Int)) = false := by simp; omega
  go_enter Tryf.func4, Tryf.ntmps4
  go_wp2_with (at_make; refine wpList_make_own _ rfl _ _ 32 rfl w.heap.size 5 i0 (.int .u8 0) 1 Tryf.underlying32 hi hz0 hz1 _ _ _ 32 rfl rfl ?b1 ?b2 ?b3 (Nat.le_refl _) ?_)
  case b1 => omega
  case b2 => rw [hz2]; omega
  case b3 => unfold maxLen; omega
  intro w0 hown0 hgrow0
  have hbw0 : Below w.heap.size w w0 := (Below.refl _ _).grown hgrow0 (Nat.le_refl _) (fun k h => by cases h)
  clear hgrow0
  have hT0 : w0.ownsRow w.heap.size 5 1 (.slice (some ⟨w.heap.size, 0, none⟩) 0 32) (([] : List UInt8)).length (Lib.byteCells []) := hown0
  have hB0 := hbw0
  clear hown0 hbw0
  go_wp2_with fail
  go_loopw [13, 14] (fun v t wr => ∃ (k : Nat) (x : Value), x = v ∧ k ≤ lead ∧ t = .int .i64 k ∧ wr.ownsRow w.heap.size 5 1 x (([] : List UInt8) ++ List.replicate k 48).length (Lib.byteCells (([] : List UInt8) ++ List.replicate k 48)) ∧ Below w.heap.size w wr) (fun _ t _ => lead - (intOf t).toNat)
  case atStart => exact ⟨0, _, rfl, by omega, rfl, by simpa using hT0, hB0⟩
  case round =>
    clear hT0 hB0
    obtain ⟨k, x, rfl, hk, rfl, hO, hB⟩ := hrel
    by_cases hlt : k < lead
    · have hlt' : (k : Int) < (lead : Int) := by omega

      go_wp2_with (at_builtin; refine wpList_append_own _ rfl _ _ 32 rfl w.heap.size 5 i0 (.int .u8 0) 1 1 Tryf.underlying32 hi hz0 hz1 hz2 rfl (by decide) _ _ _ rfl (hO.alloc _) ⟨wr.heap.size, 0, none⟩ 1 1 [.int .u8 48] rfl rfl ?c1 ?c2 ?c3 ?c4 ?c5 ?_)
      case c1 =>
        intro j u hj
        match j, hj with
        | 0, hj => simp at hj; subst hj; simp [Addr.add]
      case c2 => intro u hu; simp at hu; subst hu; rfl
      case c3 => unfold maxLen; first | omega | (simp; done) | (simp; omega)
      case c4 => first | omega | (simp; done) | (simp; omega)
      case c5 => have := hB.size; first | omega | (simp; done) | (simp; omega)
      intro vv ww howw hgww _
      have hBB : Below w.heap.size w ww := (hB.alloc hB.size _).grown hgww (by have := hB.size; simp; omega) (fun k hk => (hO.lt k hk).1)
      have hOO : ww.ownsRow w.heap.size 5 1 vv (([] : List UInt8) ++ List.replicate (k + 1) 48).length (Lib.byteCells (([] : List UInt8) ++ List.replicate (k + 1) 48)) := by
        refine own_snoc (([] : List UInt8) ++ List.replicate k 48) 48 (([] : List UInt8) ++ List.replicate (k + 1) 48) ?_ ?_ howw
        case refine_1 => simp [List.replicate_succ']
        case refine_2 => first | rfl | (simp; omega) | simp
      clear howw hgww hO hB 
      go_wp2_with fail
      go_roundw
      case rel => exact ⟨k + 1, _, rfl, by omega, by go_num, hOO, hBB⟩
      case measure => simp [intOf]; omega
    · have hke : k = lead := by omega
      subst hke
      have hlt' : ¬ ((k : Int) < (k : Int)) := by omega
      clear hk hlt
      go_wp2_with fail
      refine (numeralOf_ok x (([] : List UInt8) ++ List.replicate k 48) whole w.heap.size wr hO hB.size (by omega) (by simp; omega)).mono ?_
      rintro e w1 ⟨v1, rfl, hO1, hB1⟩
      have hO2 : w1.ownsRow w.heap.size 5 1 v1 (([] : List UInt8) ++ part k whole).length (Lib.byteCells (([] : List UInt8) ++ part k whole)) := by
        unfold part
        rw [← List.append_assoc]
        exact hO1
      have hB2 := hB.trans hB1
      clear hO hB hO1 hB1
      have hpl := part_len k whole 9 (by omega)
      cases point with
      | false =>
        obtain ⟨S, hS⟩ : ∃ S : ByteArray, S = ⟨(([] : List UInt8) ++ part k whole).toArray⟩ := ⟨_, rfl⟩
        have hSd : S.data.toList = txt false (part k whole) false [] := by rw [hS]; simp [txt]
        have hcv := own_string hO2
        rw [← hS] at hcv
        have hnum : num 0 (part k whole ++ []) = whole := by rw [List.append_nil, num_part]
        have hE1 : Eof w1 (eofAt ea) := (hB2.cell (p := ⟨1, 0, none⟩) (by show 1 < w.heap.size; omega)).trans hE'.out
        have hP := parse_ok false false (part k whole) [] S ea w.heap.size w1 hSd (part_digits k whole) (fun c hc => by simp at hc) (part_ne k whole) (fun h => by cases h) (fun _ => rfl) (by simp; omega) (by rw [hnum]; omega) hE1 h2 hB2.size
        rw [hnum] at hP
        have hP' := hid hP
        clear hP hS hSd hE1 hnum hO2 hpl
        go_wp2_with fail
        refine hP'.out.mono ?_
        rintro e w2 ⟨bz, z, cap, rfl, hBI, hZI, hB3⟩
        have hB4 := hB2.trans hB3
        have hBI' := hid hBI
        have hZI' := hid hZI
        clear hP' hB3 hB2 hBI hZI hcv
        have hr : (if (false && decide (0 < whole)) then -(whole : Int) else (whole : Int)) = (whole : Int) := by simp
        go_wp2_with fail
        have hD0 : (w2.alloc (.cells #[.pointer (some ⟨bz, 0, none⟩), .int .i64 0] 25)).cell? ⟨w2.heap.size, 0, none⟩ = some (.pointer (some ⟨bz, 0, none⟩)) := by rw [Lib.cell_of_heap (heap_alloc_new w2 _)]; rfl
        have hD1 : (w2.alloc (.cells #[.pointer (some ⟨bz, 0, none⟩), .int .i64 0] 25)).cell? ⟨w2.heap.size, 1, none⟩ = some (.int .i64 0) := by rw [Lib.cell_of_heap (heap_alloc_new w2 _)]; rfl
        have hDs : w2.heap.size < (w2.alloc (.cells #[.pointer (some ⟨bz, 0, none⟩), .int .i64 0] 25)).heap.size := by rw [World.size_alloc]; omega
        have hDb : Below w2.heap.size w2 (w2.alloc (.cells #[.pointer (some ⟨bz, 0, none⟩), .int .i64 0] 25)) := (Below.refl _ _).alloc (Nat.le_refl _) _
        have hB5 : Below w.heap.size w (w2.alloc (.cells #[.pointer (some ⟨bz, 0, none⟩), .int .i64 0] 25)) := hB4.alloc hB4.size _
        have hDh := hid (And.intro hD0 (And.intro hD1 (And.intro hDs (And.intro hDb hB5))))
        clear hD0 hD1 hDs hDb hB5
        refine (zzplaces _ _ _).mono ?_
        rintro e w4 ⟨rfl, hb4⟩
        obtain ⟨hD0, hD1, hDs, hDb, hB5⟩ := hDh.out
        have e0 : w4.cell? ⟨w2.heap.size, 0, none⟩ = some (.pointer (some ⟨bz, 0, none⟩)) := (hb4.cell (p := ⟨w2.heap.size, 0, none⟩) hDs).trans hD0
        have e1 : w4.cell? ⟨w2.heap.size, 1, none⟩ = some (.int .i64 0) := (hb4.cell (p := ⟨w2.heap.size, 1, none⟩) hDs).trans hD1
        have hb24 : Below w2.heap.size w2 w4 := hDb.trans (hb4.mono (Nat.le_of_lt hDs))
        have hB6 : Below w.heap.size w w4 := hB5.trans (hb4.mono hB5.size)
        have hs4 : w2.heap.size < w4.heap.size := Nat.lt_of_lt_of_le hDs hb4.size
        have hBI4 := hid (hBI'.out.below hb24 hBI'.out.lt)
        have hZI4 := hid (hZI'.out.below hb24)
        clear hD0 hD1 hDs hDb hB5 hDh hb4 hb24 hB4 hBI' hZI'
        go_wp2_with fail
        refine (zzIs bz _ whole cap _ z _ w4 hBI4.out hZI4.out (by omega)).mono ?_
        rintro e w5 ⟨rfl, hb5⟩
        have e0' : w5.cell? ⟨w2.heap.size, 0, none⟩ = some (.pointer (some ⟨bz, 0, none⟩)) := (hb5.cell (p := ⟨w2.heap.size, 0, none⟩) hs4).trans e0
        have e1' : w5.cell? ⟨w2.heap.size, 1, none⟩ = some (.int .i64 0) := (hb5.cell (p := ⟨w2.heap.size, 1, none⟩) hs4).trans e1
        have hB7 : Below w.heap.size w w5 := hB6.trans (hb5.mono hB6.size)
        have hI := zzInt bz _ whole cap _ z 0 w5 (hBI4.out.below hb5 hBI4.out.lt) (hZI4.out.below hb5) (by omega)
        rw [hr] at hI
        have hI' := hid hI
        clear hI e0 e1 hB6 hb5 hBI4 hZI4 hs4
        go_wp2_with fail
        refine hI'.out.mono ?_
        rintro e w6 ⟨rfl, hb6⟩
        have hB8 : Below w.heap.size w w6 := hB7.trans (hb6.mono hB7.size)
        clear hb6 hI' e0' e1' hB7
        go_wp2_with fail
        go_ret
        exact ⟨rfl, hB8⟩
      | true =>
        go_wp2_with (at_builtin; refine wpList_append_own _ rfl _ _ 32 rfl w.heap.size 5 i0 (.int .u8 0) 1 1 Tryf.underlying32 hi hz0 hz1 hz2 rfl (by decide) _ _ _ rfl (hO2.alloc _) ⟨w1.heap.size, 0, none⟩ 1 1 [.int .u8 46] rfl rfl ?c1 ?c2 ?c3 ?c4 ?c5 ?_)
        case c1 =>
          intro j u hj
          match j, hj with
          | 0, hj => simp at hj; subst hj; simp [Addr.add]
        case c2 => intro u hu; simp at hu; subst hu; rfl
        case c3 => unfold maxLen; first | omega | (simp; done) | (simp; omega)
        case c4 => first | omega | (simp; done) | (simp; omega)
        case c5 => have := hB2.size; first | omega | (simp; done) | (simp; omega)
        intro vv ww howw hgww _
        have hBB : Below w.heap.size w ww := (hB2.alloc hB2.size _).grown hgww (by have := hB2.size; simp; omega) (fun k hk => (hO2.lt k hk).1)
        have hOO : ww.ownsRow w.heap.size 5 1 vv (([] : List UInt8) ++ part k whole ++ [46]).length (Lib.byteCells (([] : List UInt8) ++ part k whole ++ [46])) := by
          refine own_snoc (([] : List UInt8) ++ part k whole) 46 (([] : List UInt8) ++ part k whole ++ [46]) ?_ ?_ howw
          case refine_1 => simp [List.replicate_succ']
          case refine_2 => first | rfl | (simp; omega) | simp
        clear howw hgww hO2 hB2 
        obtain ⟨Lp, hLp⟩ : ∃ Lp, Lp = ([] : List UInt8) ++ part k whole ++ [46] := ⟨_, rfl⟩
        rw [← hLp] at hOO
        obtain ⟨M, hM⟩ : ∃ M, M = Lp.length := ⟨_, rfl⟩
        have hM' : M ≤ 20 := by rw [hM, hLp]; simp; omega
        have hOO' := hOO
        rw [← hM] at hOO'
        obtain ⟨a3, c3, rfl⟩ := own_slice hOO'
        have hLp' := hid hLp
        have hLpl : Lp.length ≤ 20 := by omega
        have hMh := hid hM
        clear hOO' hLp hM
        go_wp2_with fail
        go_loopw [13, 18] (fun v t wr => ∃ (q : Nat) (x : Value), x = v ∧ q ≤ zeros ∧ t = .int .i64 q ∧ wr.ownsRow w.heap.size 5 1 x (Lp ++ List.replicate q 48).length (Lib.byteCells (Lp ++ List.replicate q 48)) ∧ Below w.heap.size w wr) (fun _ t _ => zeros - (intOf t).toNat)
        case atStart => exact ⟨0, _, rfl, by omega, rfl, by simpa using hOO, hBB⟩
        case round =>
          clear hOO hBB
          obtain ⟨q, y, rfl, hq, rfl, hO, hB⟩ := hrel
          by_cases hlt : q < zeros
          · have hlt2 : (q : Int) < (zeros : Int) := by omega
            go_wp2_with (at_builtin; refine wpList_append_own _ rfl _ _ 32 rfl w.heap.size 5 i0 (.int .u8 0) 1 1 Tryf.underlying32 hi hz0 hz1 hz2 rfl (by decide) _ _ _ rfl (hO.alloc _) ⟨wr.heap.size, 0, none⟩ 1 1 [.int .u8 48] rfl rfl ?c1 ?c2 ?c3 ?c4 ?c5 ?_)
            case c1 =>
              intro j u hj
              match j, hj with
              | 0, hj => simp at hj; subst hj; simp [Addr.add]
            case c2 => intro u hu; simp at hu; subst hu; rfl
            case c3 => unfold maxLen; first | omega | (simp; done) | (simp; omega)
            case c4 => first | omega | (simp; done) | (simp; omega)
            case c5 => have := hB.size; first | omega | (simp; done) | (simp; omega)
            intro vv ww howw hgww _
            have hBB : Below w.heap.size w ww := (hB.alloc hB.size _).grown hgww (by have := hB.size; simp; omega) (fun k hk => (hO.lt k hk).1)
            have hOO : ww.ownsRow w.heap.size 5 1 vv (Lp ++ List.replicate (q + 1) 48).length (Lib.byteCells (Lp ++ List.replicate (q + 1) 48)) := by
              refine own_snoc (Lp ++ List.replicate q 48) 48 (Lp ++ List.replicate (q + 1) 48) ?_ ?_ howw
              case refine_1 => simp [List.replicate_succ']
              case refine_2 => first | rfl | (simp; omega) | simp
            clear howw hgww hO hB 
            go_wp2_with fail
            go_roundw
            case rel => exact ⟨q + 1, _, rfl, by omega, by go_num, hOO, hBB⟩
            case measure => simp [intOf]; omega
          · have hqe : q = zeros := by omega
            subst hqe
            have hlt2 : ¬ ((q : Int) < (q : Int)) := by omega
            clear hq hlt
            go_wp2_with fail
            refine (numeralOf_ok y (Lp ++ List.replicate q 48) frac w.heap.size wr hO hB.size (by omega) (by simp; omega)).mono ?_
            rintro e w5 ⟨v5, rfl, hO1, hB1⟩
            have hO5 : w5.ownsRow w.heap.size 5 1 v5 (Lp ++ part q frac).length (Lib.byteCells (Lp ++ part q frac)) := by
              unfold part
              rw [← List.append_assoc]
              exact hO1
            have hB5 := hB.trans hB1
            clear hO hB hO1 hB1
            obtain ⟨Pl, hPl⟩ : ∃ Pl, Pl = (part q frac).length := ⟨_, rfl⟩
            have hPl9 : Pl ≤ 9 := by
              have := part_len q frac 4 (by omega)
              omega
            have hO5' := hO5
            rw [List.length_append, ← hMh.out, ← hPl] at hO5'
            obtain ⟨a5, c5, rfl⟩ := own_slice hO5'
            have hPl' := hid hPl
            clear hO5' hPl
            have hMPl : (M : Int) + (Pl : Int) - (M : Int) = (Pl : Int) := by omega
            have hO5h := hid hO5
            clear hO5
            go_wp2_with fail
            go_loop [16, 19] (fun a t => ∃ (r Q : Nat), r ≤ Pl ∧ t = .int .i64 r ∧ a = .int .i64 Q ∧ Q = whole * 10 ^ r) (fun _ t => Pl - (intOf t).toNat)
            case atStart => exact ⟨0, whole, by omega, rfl, rfl, by simp⟩
            case round =>
              obtain ⟨r, Q, hr, rfl, rfl, hQ⟩ := hrel
              have hQb : Q ≤ whole * 10 ^ 9 := by rw [hQ]; exact Nat.mul_le_mul_left _ (Nat.pow_le_pow_right (by omega) (by omega))
              have hQh := hid hQ
              by_cases hlt : r < Pl
              · have hQ8 : Q ≤ whole * 10 ^ 8 := by rw [hQ]; exact Nat.mul_le_mul_left _ (Nat.pow_le_pow_right (by omega) (by omega))
                have hQ9 : (Q : Int) < 922337203685477580 := by omega
                have hlt3 : (r : Int) < (Pl : Int) := by omega
                clear hQ hQb hQ8
                go_wp2_with fail
                go_round
                case rel => exact ⟨r + 1, Q * 10, by omega, by go_num, by go_num, by rw [hQh.out, Nat.pow_succ, Nat.mul_assoc]⟩
                case measure => simp [intOf]; omega
              · have hre : r = Pl := by omega
                subst hre
                have hlt3 : ¬ ((r : Int) < (r : Int)) := by omega
                have hQ9 : (Q : Int) ≤ 4294967295000000000 := by omega
                clear hQ hQb hlt hr
                obtain ⟨S, hS⟩ : ∃ S : ByteArray, S = ⟨(Lp ++ part q frac).toArray⟩ := ⟨_, rfl⟩
                have hSd : S.data.toList = txt false (part k whole) true (part q frac) := by rw [hS, hLp'.out]; simp [txt]
                have hcv := own_string hO5h.out
                rw [← hS] at hcv
                have hnum : num 0 (part k whole ++ part q frac) = Q + frac := by rw [num_append, num_part, num_acc, num_part, ← hPl'.out, ← hQh.out]
                have hE1 : Eof w5 (eofAt ea) := (hB5.cell (p := ⟨1, 0, none⟩) (by show 1 < w.heap.size; omega)).trans hE'.out
                have hP := parse_ok false true (part k whole) (part q frac) S ea w.heap.size w5 hSd (part_digits k whole) (part_digits q frac) (part_ne k whole) (fun _ => part_ne q frac) (fun h => by cases h) (by rw [← hPl'.out]; omega) (by rw [hnum]; omega) hE1 h2 hB5.size
                rw [hnum, ← hPl'.out] at hP
                have hP' := hid hP
                clear hP hS hSd hE1 hnum hO5h hpl hPl' hQh hLp' hMh
                go_wp2_with fail
                refine hP'.out.mono ?_
                rintro e w2 ⟨bz, z, cap, rfl, hBI, hZI, hB3⟩
                have hB4 := hB5.trans hB3
                have hBI' := hid hBI
                have hZI' := hid hZI
                clear hP' hB3 hB5 hBI hZI hcv
                have hr : (if (false && decide (0 < Q + frac)) then -((Q + frac : Nat) : Int) else ((Q + frac : Nat) : Int)) = ((Q : Int) + (frac : Int)) := by simp
                go_wp2_with fail
                have hD0 : (w2.alloc (.cells #[.pointer (some ⟨bz, 0, none⟩), .int .i64 r] 25)).cell? ⟨w2.heap.size, 0, none⟩ = some (.pointer (some ⟨bz, 0, none⟩)) := by rw [Lib.cell_of_heap (heap_alloc_new w2 _)]; rfl
                have hD1 : (w2.alloc (.cells #[.pointer (some ⟨bz, 0, none⟩), .int .i64 r] 25)).cell? ⟨w2.heap.size, 1, none⟩ = some (.int .i64 r) := by rw [Lib.cell_of_heap (heap_alloc_new w2 _)]; rfl
                have hDs : w2.heap.size < (w2.alloc (.cells #[.pointer (some ⟨bz, 0, none⟩), .int .i64 r] 25)).heap.size := by rw [World.size_alloc]; omega
                have hDb : Below w2.heap.size w2 (w2.alloc (.cells #[.pointer (some ⟨bz, 0, none⟩), .int .i64 r] 25)) := (Below.refl _ _).alloc (Nat.le_refl _) _
                have hB5 : Below w.heap.size w (w2.alloc (.cells #[.pointer (some ⟨bz, 0, none⟩), .int .i64 r] 25)) := hB4.alloc hB4.size _
                have hDh := hid (And.intro hD0 (And.intro hD1 (And.intro hDs (And.intro hDb hB5))))
                clear hD0 hD1 hDs hDb hB5
                refine (zzplaces _ _ _).mono ?_
                rintro e w4 ⟨rfl, hb4⟩
                obtain ⟨hD0, hD1, hDs, hDb, hB5⟩ := hDh.out
                have e0 : w4.cell? ⟨w2.heap.size, 0, none⟩ = some (.pointer (some ⟨bz, 0, none⟩)) := (hb4.cell (p := ⟨w2.heap.size, 0, none⟩) hDs).trans hD0
                have e1 : w4.cell? ⟨w2.heap.size, 1, none⟩ = some (.int .i64 r) := (hb4.cell (p := ⟨w2.heap.size, 1, none⟩) hDs).trans hD1
                have hb24 : Below w2.heap.size w2 w4 := hDb.trans (hb4.mono (Nat.le_of_lt hDs))
                have hB6 : Below w.heap.size w w4 := hB5.trans (hb4.mono hB5.size)
                have hs4 : w2.heap.size < w4.heap.size := Nat.lt_of_lt_of_le hDs hb4.size
                have hBI4 := hid (hBI'.out.below hb24 hBI'.out.lt)
                have hZI4 := hid (hZI'.out.below hb24)
                clear hD0 hD1 hDs hDb hB5 hDh hb4 hb24 hB4 hBI' hZI'
                go_wp2_with fail
                refine (zzIs bz _ (Q + frac) cap _ z _ w4 hBI4.out hZI4.out (by omega)).mono ?_
                rintro e w5 ⟨rfl, hb5⟩
                have e0' : w5.cell? ⟨w2.heap.size, 0, none⟩ = some (.pointer (some ⟨bz, 0, none⟩)) := (hb5.cell (p := ⟨w2.heap.size, 0, none⟩) hs4).trans e0
                have e1' : w5.cell? ⟨w2.heap.size, 1, none⟩ = some (.int .i64 r) := (hb5.cell (p := ⟨w2.heap.size, 1, none⟩) hs4).trans e1
                have hB7 : Below w.heap.size w w5 := hB6.trans (hb5.mono hB6.size)
                have hI := zzInt bz _ (Q + frac) cap _ z r w5 (hBI4.out.below hb5 hBI4.out.lt) (hZI4.out.below hb5) (by omega)
                rw [hr] at hI
                have hI' := hid hI
                clear hI e0 e1 hB6 hb5 hBI4 hZI4 hs4
                go_wp2_with fail
                refine hI'.out.mono ?_
                rintro e w6 ⟨rfl, hb6⟩
                have hB8 : Below w.heap.size w w6 := hB7.trans (hb6.mono hB7.size)
                clear hb6 hI' e0' e1' hB7
                go_wp2_with fail
                go_ret
                exact ⟨rfl, hB8⟩

set_option maxRecDepth 100000 in
set_option maxHeartbeats 2000000 in
theorem law_neg (lead whole zeros frac : Nat) (point : Bool) (ea : Addr) (w : World) (hl : lead ≤ 4) (hz : zeros ≤ 4) (hwh : whole < 4294967296) (hfr : frac < 65536) (hE : Eof w (eofAt ea)) (h2 : 2 < w.heap.size) :
    Calls Tryf.prog 4 #[.bool true, .int .u8 lead, .int .u32 whole, .bool point, .int .u8 zeros, .int .u16 frac] w fun e w' => e = .returned (.bool true) ∧ Below w.heap.size w w' := by
  obtain ⟨i0, hi, hz0, hz1, hz2⟩ := info_parts info5
  have hE' := hid hE
  clear hE
  have d1 : decide ((4 : Int) < (lead : Int)) = false := by simp; omega
  have d2 : decide ((4 : Int) < (zeros : Int)) = false := by simp; omega
  go_enter Tryf.func4, Tryf.ntmps4
  go_wp2_with (at_make; refine wpList_make_own _ rfl _ _ 32 rfl w.heap.size 5 i0 (.int .u8 0) 1 Tryf.underlying32 hi hz0 hz1 _ _ _ 32 rfl rfl ?b1 ?b2 ?b3 (Nat.le_refl _) ?_)
  case b1 => omega
  case b2 => rw [hz2]; omega
  case b3 => unfold maxLen; omega
  intro w0 hown0 hgrow0
  have hbw0 : Below w.heap.size w w0 := (Below.refl _ _).grown hgrow0 (Nat.le_refl _) (fun k h => by cases h)
  clear hgrow0
  go_wp2_with (at_builtin; refine wpList_append_own _ rfl _ _ 32 rfl w.heap.size 5 i0 (.int .u8 0) 1 1 Tryf.underlying32 hi hz0 hz1 hz2 rfl (by decide) _ _ _ rfl (hown0.alloc _) ⟨w0.heap.size, 0, none⟩ 1 1 [.int .u8 45] rfl rfl ?c1 ?c2 ?c3 ?c4 ?c5 ?_)
  case c1 =>
    intro j u hj
    match j, hj with
    | 0, hj => simp at hj; subst hj; simp [Addr.add]
  case c2 => intro u hu; simp at hu; subst hu; rfl
  case c3 => unfold maxLen; first | omega | (simp; done) | (simp; omega)
  case c4 => first | omega | (simp; done) | (simp; omega)
  case c5 => have := hbw0.size; first | omega | (simp; done) | (simp; omega)
  intro vv ww howw hgww _
  have hBB : Below w.heap.size w ww := (hbw0.alloc hbw0.size _).grown hgww (by have := hbw0.size; simp; omega) (fun k hk => (hown0.lt k hk).1)
  have hOO : ww.ownsRow w.heap.size 5 1 vv ([45]).length (Lib.byteCells ([45])) := by
    refine own_snoc [] 45 ([45]) ?_ ?_ howw
    case refine_1 => simp [List.replicate_succ']
    case refine_2 => first | rfl | (simp; omega) | simp
  clear howw hgww hown0 hbw0 
  have hT0 := hOO
  clear hOO
  have hB0 := hBB
  clear hBB
  go_wp2_with fail
  go_loopw [13, 14] (fun v t wr => ∃ (k : Nat) (x : Value), x = v ∧ k ≤ lead ∧ t = .int .i64 k ∧ wr.ownsRow w.heap.size 5 1 x (([45] : List UInt8) ++ List.replicate k 48).length (Lib.byteCells (([45] : List UInt8) ++ List.replicate k 48)) ∧ Below w.heap.size w wr) (fun _ t _ => lead - (intOf t).toNat)
  case atStart => exact ⟨0, _, rfl, by omega, rfl, by simpa using hT0, hB0⟩
  case round =>
    clear hT0 hB0
    obtain ⟨k, x, rfl, hk, rfl, hO, hB⟩ := hrel
    by_cases hlt : k < lead
    · have hlt' : (k : Int) < (lead : Int) := by omega

      go_wp2_with (at_builtin; refine wpList_append_own _ rfl _ _ 32 rfl w.heap.size 5 i0 (.int .u8 0) 1 1 Tryf.underlying32 hi hz0 hz1 hz2 rfl (by decide) _ _ _ rfl (hO.alloc _) ⟨wr.heap.size, 0, none⟩ 1 1 [.int .u8 48] rfl rfl ?c1 ?c2 ?c3 ?c4 ?c5 ?_)
      case c1 =>
        intro j u hj
        match j, hj with
        | 0, hj => simp at hj; subst hj; simp [Addr.add]
      case c2 => intro u hu; simp at hu; subst hu; rfl
      case c3 => unfold maxLen; first | omega | (simp; done) | (simp; omega)
      case c4 => first | omega | (simp; done) | (simp; omega)
      case c5 => have := hB.size; first | omega | (simp; done) | (simp; omega)
      intro vv ww howw hgww _
      have hBB : Below w.heap.size w ww := (hB.alloc hB.size _).grown hgww (by have := hB.size; simp; omega) (fun k hk => (hO.lt k hk).1)
      have hOO : ww.ownsRow w.heap.size 5 1 vv (([45] : List UInt8) ++ List.replicate (k + 1) 48).length (Lib.byteCells (([45] : List UInt8) ++ List.replicate (k + 1) 48)) := by
        refine own_snoc (([45] : List UInt8) ++ List.replicate k 48) 48 (([45] : List UInt8) ++ List.replicate (k + 1) 48) ?_ ?_ howw
        case refine_1 => simp [List.replicate_succ']
        case refine_2 => first | rfl | (simp; omega) | simp
      clear howw hgww hO hB 
      go_wp2_with fail
      go_roundw
      case rel => exact ⟨k + 1, _, rfl, by omega, by go_num, hOO, hBB⟩
      case measure => simp [intOf]; omega
    · have hke : k = lead := by omega
      subst hke
      have hlt' : ¬ ((k : Int) < (k : Int)) := by omega
      clear hk hlt
      go_wp2_with fail
      refine (numeralOf_ok x (([45] : List UInt8) ++ List.replicate k 48) whole w.heap.size wr hO hB.size (by omega) (by simp; omega)).mono ?_
      rintro e w1 ⟨v1, rfl, hO1, hB1⟩
      have hO2 : w1.ownsRow w.heap.size 5 1 v1 (([45] : List UInt8) ++ part k whole).length (Lib.byteCells (([45] : List UInt8) ++ part k whole)) := by
        unfold part
        rw [← List.append_assoc]
        exact hO1
      have hB2 := hB.trans hB1
      clear hO hB hO1 hB1
      have hpl := part_len k whole 9 (by omega)
      cases point with
      | false =>
        obtain ⟨S, hS⟩ : ∃ S : ByteArray, S = ⟨(([45] : List UInt8) ++ part k whole).toArray⟩ := ⟨_, rfl⟩
        have hSd : S.data.toList = txt true (part k whole) false [] := by rw [hS]; simp [txt]
        have hcv := own_string hO2
        rw [← hS] at hcv
        have hnum : num 0 (part k whole ++ []) = whole := by rw [List.append_nil, num_part]
        have hE1 : Eof w1 (eofAt ea) := (hB2.cell (p := ⟨1, 0, none⟩) (by show 1 < w.heap.size; omega)).trans hE'.out
        have hP := parse_ok true false (part k whole) [] S ea w.heap.size w1 hSd (part_digits k whole) (fun c hc => by simp at hc) (part_ne k whole) (fun h => by cases h) (fun _ => rfl) (by simp; omega) (by rw [hnum]; omega) hE1 h2 hB2.size
        rw [hnum] at hP
        have hP' := hid hP
        clear hP hS hSd hE1 hnum hO2 hpl
        go_wp2_with fail
        refine hP'.out.mono ?_
        rintro e w2 ⟨bz, z, cap, rfl, hBI, hZI, hB3⟩
        have hB4 := hB2.trans hB3
        have hBI' := hid hBI
        have hZI' := hid hZI
        clear hP' hB3 hB2 hBI hZI hcv
        have hr : (if (true && decide (0 < whole)) then -(whole : Int) else (whole : Int)) = -(whole : Int) := by by_cases h : 0 < whole <;> simp [h]; omega
        go_wp2_with fail
        have hD0 : (w2.alloc (.cells #[.pointer (some ⟨bz, 0, none⟩), .int .i64 0] 25)).cell? ⟨w2.heap.size, 0, none⟩ = some (.pointer (some ⟨bz, 0, none⟩)) := by rw [Lib.cell_of_heap (heap_alloc_new w2 _)]; rfl
        have hD1 : (w2.alloc (.cells #[.pointer (some ⟨bz, 0, none⟩), .int .i64 0] 25)).cell? ⟨w2.heap.size, 1, none⟩ = some (.int .i64 0) := by rw [Lib.cell_of_heap (heap_alloc_new w2 _)]; rfl
        have hDs : w2.heap.size < (w2.alloc (.cells #[.pointer (some ⟨bz, 0, none⟩), .int .i64 0] 25)).heap.size := by rw [World.size_alloc]; omega
        have hDb : Below w2.heap.size w2 (w2.alloc (.cells #[.pointer (some ⟨bz, 0, none⟩), .int .i64 0] 25)) := (Below.refl _ _).alloc (Nat.le_refl _) _
        have hB5 : Below w.heap.size w (w2.alloc (.cells #[.pointer (some ⟨bz, 0, none⟩), .int .i64 0] 25)) := hB4.alloc hB4.size _
        have hDh := hid (And.intro hD0 (And.intro hD1 (And.intro hDs (And.intro hDb hB5))))
        clear hD0 hD1 hDs hDb hB5
        refine (zzplaces _ _ _).mono ?_
        rintro e w4 ⟨rfl, hb4⟩
        obtain ⟨hD0, hD1, hDs, hDb, hB5⟩ := hDh.out
        have e0 : w4.cell? ⟨w2.heap.size, 0, none⟩ = some (.pointer (some ⟨bz, 0, none⟩)) := (hb4.cell (p := ⟨w2.heap.size, 0, none⟩) hDs).trans hD0
        have e1 : w4.cell? ⟨w2.heap.size, 1, none⟩ = some (.int .i64 0) := (hb4.cell (p := ⟨w2.heap.size, 1, none⟩) hDs).trans hD1
        have hb24 : Below w2.heap.size w2 w4 := hDb.trans (hb4.mono (Nat.le_of_lt hDs))
        have hB6 : Below w.heap.size w w4 := hB5.trans (hb4.mono hB5.size)
        have hs4 : w2.heap.size < w4.heap.size := Nat.lt_of_lt_of_le hDs hb4.size
        have hBI4 := hid (hBI'.out.below hb24 hBI'.out.lt)
        have hZI4 := hid (hZI'.out.below hb24)
        clear hD0 hD1 hDs hDb hB5 hDh hb4 hb24 hB4 hBI' hZI'
        go_wp2_with fail
        refine (zzIs bz _ whole cap _ z _ w4 hBI4.out hZI4.out (by omega)).mono ?_
        rintro e w5 ⟨rfl, hb5⟩
        have e0' : w5.cell? ⟨w2.heap.size, 0, none⟩ = some (.pointer (some ⟨bz, 0, none⟩)) := (hb5.cell (p := ⟨w2.heap.size, 0, none⟩) hs4).trans e0
        have e1' : w5.cell? ⟨w2.heap.size, 1, none⟩ = some (.int .i64 0) := (hb5.cell (p := ⟨w2.heap.size, 1, none⟩) hs4).trans e1
        have hB7 : Below w.heap.size w w5 := hB6.trans (hb5.mono hB6.size)
        have hI := zzInt bz _ whole cap _ z 0 w5 (hBI4.out.below hb5 hBI4.out.lt) (hZI4.out.below hb5) (by omega)
        rw [hr] at hI
        have hI' := hid hI
        clear hI e0 e1 hB6 hb5 hBI4 hZI4 hs4
        go_wp2_with fail
        refine hI'.out.mono ?_
        rintro e w6 ⟨rfl, hb6⟩
        have hB8 : Below w.heap.size w w6 := hB7.trans (hb6.mono hB7.size)
        clear hb6 hI' e0' e1' hB7
        go_wp2_with fail
        go_ret
        exact ⟨rfl, hB8⟩
      | true =>
        go_wp2_with (at_builtin; refine wpList_append_own _ rfl _ _ 32 rfl w.heap.size 5 i0 (.int .u8 0) 1 1 Tryf.underlying32 hi hz0 hz1 hz2 rfl (by decide) _ _ _ rfl (hO2.alloc _) ⟨w1.heap.size, 0, none⟩ 1 1 [.int .u8 46] rfl rfl ?c1 ?c2 ?c3 ?c4 ?c5 ?_)
        case c1 =>
          intro j u hj
          match j, hj with
          | 0, hj => simp at hj; subst hj; simp [Addr.add]
        case c2 => intro u hu; simp at hu; subst hu; rfl
        case c3 => unfold maxLen; first | omega | (simp; done) | (simp; omega)
        case c4 => first | omega | (simp; done) | (simp; omega)
        case c5 => have := hB2.size; first | omega | (simp; done) | (simp; omega)
        intro vv ww howw hgww _
        have hBB : Below w.heap.size w ww := (hB2.alloc hB2.size _).grown hgww (by have := hB2.size; simp; omega) (fun k hk => (hO2.lt k hk).1)
        have hOO : ww.ownsRow w.heap.size 5 1 vv (([45] : List UInt8) ++ part k whole ++ [46]).length (Lib.byteCells (([45] : List UInt8) ++ part k whole ++ [46])) := by
          refine own_snoc (([45] : List UInt8) ++ part k whole) 46 (([45] : List UInt8) ++ part k whole ++ [46]) ?_ ?_ howw
          case refine_1 => simp [List.replicate_succ']
          case refine_2 => first | rfl | (simp; omega) | simp
        clear howw hgww hO2 hB2 
        obtain ⟨Lp, hLp⟩ : ∃ Lp, Lp = ([45] : List UInt8) ++ part k whole ++ [46] := ⟨_, rfl⟩
        rw [← hLp] at hOO
        obtain ⟨M, hM⟩ : ∃ M, M = Lp.length := ⟨_, rfl⟩
        have hM' : M ≤ 20 := by rw [hM, hLp]; simp; omega
        have hOO' := hOO
        rw [← hM] at hOO'
        obtain ⟨a3, c3, rfl⟩ := own_slice hOO'
        have hLp' := hid hLp
        have hLpl : Lp.length ≤ 20 := by omega
        have hMh := hid hM
        clear hOO' hLp hM
        go_wp2_with fail
        go_loopw [13, 18] (fun v t wr => ∃ (q : Nat) (x : Value), x = v ∧ q ≤ zeros ∧ t = .int .i64 q ∧ wr.ownsRow w.heap.size 5 1 x (Lp ++ List.replicate q 48).length (Lib.byteCells (Lp ++ List.replicate q 48)) ∧ Below w.heap.size w wr) (fun _ t _ => zeros - (intOf t).toNat)
        case atStart => exact ⟨0, _, rfl, by omega, rfl, by simpa using hOO, hBB⟩
        case round =>
          clear hOO hBB
          obtain ⟨q, y, rfl, hq, rfl, hO, hB⟩ := hrel
          by_cases hlt : q < zeros
          · have hlt2 : (q : Int) < (zeros : Int) := by omega
            go_wp2_with (at_builtin; refine wpList_append_own _ rfl _ _ 32 rfl w.heap.size 5 i0 (.int .u8 0) 1 1 Tryf.underlying32 hi hz0 hz1 hz2 rfl (by decide) _ _ _ rfl (hO.alloc _) ⟨wr.heap.size, 0, none⟩ 1 1 [.int .u8 48] rfl rfl ?c1 ?c2 ?c3 ?c4 ?c5 ?_)
            case c1 =>
              intro j u hj
              match j, hj with
              | 0, hj => simp at hj; subst hj; simp [Addr.add]
            case c2 => intro u hu; simp at hu; subst hu; rfl
            case c3 => unfold maxLen; first | omega | (simp; done) | (simp; omega)
            case c4 => first | omega | (simp; done) | (simp; omega)
            case c5 => have := hB.size; first | omega | (simp; done) | (simp; omega)
            intro vv ww howw hgww _
            have hBB : Below w.heap.size w ww := (hB.alloc hB.size _).grown hgww (by have := hB.size; simp; omega) (fun k hk => (hO.lt k hk).1)
            have hOO : ww.ownsRow w.heap.size 5 1 vv (Lp ++ List.replicate (q + 1) 48).length (Lib.byteCells (Lp ++ List.replicate (q + 1) 48)) := by
              refine own_snoc (Lp ++ List.replicate q 48) 48 (Lp ++ List.replicate (q + 1) 48) ?_ ?_ howw
              case refine_1 => simp [List.replicate_succ']
              case refine_2 => first | rfl | (simp; omega) | simp
            clear howw hgww hO hB 
            go_wp2_with fail
            go_roundw
            case rel => exact ⟨q + 1, _, rfl, by omega, by go_num, hOO, hBB⟩
            case measure => simp [intOf]; omega
          · have hqe : q = zeros := by omega
            subst hqe
            have hlt2 : ¬ ((q : Int) < (q : Int)) := by omega
            clear hq hlt
            go_wp2_with fail
            refine (numeralOf_ok y (Lp ++ List.replicate q 48) frac w.heap.size wr hO hB.size (by omega) (by simp; omega)).mono ?_
            rintro e w5 ⟨v5, rfl, hO1, hB1⟩
            have hO5 : w5.ownsRow w.heap.size 5 1 v5 (Lp ++ part q frac).length (Lib.byteCells (Lp ++ part q frac)) := by
              unfold part
              rw [← List.append_assoc]
              exact hO1
            have hB5 := hB.trans hB1
            clear hO hB hO1 hB1
            obtain ⟨Pl, hPl⟩ : ∃ Pl, Pl = (part q frac).length := ⟨_, rfl⟩
            have hPl9 : Pl ≤ 9 := by
              have := part_len q frac 4 (by omega)
              omega
            have hO5' := hO5
            rw [List.length_append, ← hMh.out, ← hPl] at hO5'
            obtain ⟨a5, c5, rfl⟩ := own_slice hO5'
            have hPl' := hid hPl
            clear hO5' hPl
            have hMPl : (M : Int) + (Pl : Int) - (M : Int) = (Pl : Int) := by omega
            have hO5h := hid hO5
            clear hO5
            go_wp2_with fail
            go_loop [16, 19] (fun a t => ∃ (r Q : Nat), r ≤ Pl ∧ t = .int .i64 r ∧ a = .int .i64 Q ∧ Q = whole * 10 ^ r) (fun _ t => Pl - (intOf t).toNat)
            case atStart => exact ⟨0, whole, by omega, rfl, rfl, by simp⟩
            case round =>
              obtain ⟨r, Q, hr, rfl, rfl, hQ⟩ := hrel
              have hQb : Q ≤ whole * 10 ^ 9 := by rw [hQ]; exact Nat.mul_le_mul_left _ (Nat.pow_le_pow_right (by omega) (by omega))
              have hQh := hid hQ
              by_cases hlt : r < Pl
              · have hQ8 : Q ≤ whole * 10 ^ 8 := by rw [hQ]; exact Nat.mul_le_mul_left _ (Nat.pow_le_pow_right (by omega) (by omega))
                have hQ9 : (Q : Int) < 922337203685477580 := by omega
                have hlt3 : (r : Int) < (Pl : Int) := by omega
                clear hQ hQb hQ8
                go_wp2_with fail
                go_round
                case rel => exact ⟨r + 1, Q * 10, by omega, by go_num, by go_num, by rw [hQh.out, Nat.pow_succ, Nat.mul_assoc]⟩
                case measure => simp [intOf]; omega
              · have hre : r = Pl := by omega
                subst hre
                have hlt3 : ¬ ((r : Int) < (r : Int)) := by omega
                have hQ9 : (Q : Int) ≤ 4294967295000000000 := by omega
                clear hQ hQb hlt hr
                obtain ⟨S, hS⟩ : ∃ S : ByteArray, S = ⟨(Lp ++ part q frac).toArray⟩ := ⟨_, rfl⟩
                have hSd : S.data.toList = txt true (part k whole) true (part q frac) := by rw [hS, hLp'.out]; simp [txt]
                have hcv := own_string hO5h.out
                rw [← hS] at hcv
                have hnum : num 0 (part k whole ++ part q frac) = Q + frac := by rw [num_append, num_part, num_acc, num_part, ← hPl'.out, ← hQh.out]
                have hE1 : Eof w5 (eofAt ea) := (hB5.cell (p := ⟨1, 0, none⟩) (by show 1 < w.heap.size; omega)).trans hE'.out
                have hP := parse_ok true true (part k whole) (part q frac) S ea w.heap.size w5 hSd (part_digits k whole) (part_digits q frac) (part_ne k whole) (fun _ => part_ne q frac) (fun h => by cases h) (by rw [← hPl'.out]; omega) (by rw [hnum]; omega) hE1 h2 hB5.size
                rw [hnum, ← hPl'.out] at hP
                have hP' := hid hP
                clear hP hS hSd hE1 hnum hO5h hpl hPl' hQh hLp' hMh
                go_wp2_with fail
                refine hP'.out.mono ?_
                rintro e w2 ⟨bz, z, cap, rfl, hBI, hZI, hB3⟩
                have hB4 := hB5.trans hB3
                have hBI' := hid hBI
                have hZI' := hid hZI
                clear hP' hB3 hB5 hBI hZI hcv
                have hr : (if (true && decide (0 < Q + frac)) then -((Q + frac : Nat) : Int) else ((Q + frac : Nat) : Int)) = -((Q : Int) + (frac : Int)) := by by_cases h : 0 < Q + frac <;> simp [h] <;> omega
                go_wp2_with fail
                have hD0 : (w2.alloc (.cells #[.pointer (some ⟨bz, 0, none⟩), .int .i64 r] 25)).cell? ⟨w2.heap.size, 0, none⟩ = some (.pointer (some ⟨bz, 0, none⟩)) := by rw [Lib.cell_of_heap (heap_alloc_new w2 _)]; rfl
                have hD1 : (w2.alloc (.cells #[.pointer (some ⟨bz, 0, none⟩), .int .i64 r] 25)).cell? ⟨w2.heap.size, 1, none⟩ = some (.int .i64 r) := by rw [Lib.cell_of_heap (heap_alloc_new w2 _)]; rfl
                have hDs : w2.heap.size < (w2.alloc (.cells #[.pointer (some ⟨bz, 0, none⟩), .int .i64 r] 25)).heap.size := by rw [World.size_alloc]; omega
                have hDb : Below w2.heap.size w2 (w2.alloc (.cells #[.pointer (some ⟨bz, 0, none⟩), .int .i64 r] 25)) := (Below.refl _ _).alloc (Nat.le_refl _) _
                have hB5 : Below w.heap.size w (w2.alloc (.cells #[.pointer (some ⟨bz, 0, none⟩), .int .i64 r] 25)) := hB4.alloc hB4.size _
                have hDh := hid (And.intro hD0 (And.intro hD1 (And.intro hDs (And.intro hDb hB5))))
                clear hD0 hD1 hDs hDb hB5
                refine (zzplaces _ _ _).mono ?_
                rintro e w4 ⟨rfl, hb4⟩
                obtain ⟨hD0, hD1, hDs, hDb, hB5⟩ := hDh.out
                have e0 : w4.cell? ⟨w2.heap.size, 0, none⟩ = some (.pointer (some ⟨bz, 0, none⟩)) := (hb4.cell (p := ⟨w2.heap.size, 0, none⟩) hDs).trans hD0
                have e1 : w4.cell? ⟨w2.heap.size, 1, none⟩ = some (.int .i64 r) := (hb4.cell (p := ⟨w2.heap.size, 1, none⟩) hDs).trans hD1
                have hb24 : Below w2.heap.size w2 w4 := hDb.trans (hb4.mono (Nat.le_of_lt hDs))
                have hB6 : Below w.heap.size w w4 := hB5.trans (hb4.mono hB5.size)
                have hs4 : w2.heap.size < w4.heap.size := Nat.lt_of_lt_of_le hDs hb4.size
                have hBI4 := hid (hBI'.out.below hb24 hBI'.out.lt)
                have hZI4 := hid (hZI'.out.below hb24)
                clear hD0 hD1 hDs hDb hB5 hDh hb4 hb24 hB4 hBI' hZI'
                go_wp2_with fail
                refine (zzIs bz _ (Q + frac) cap _ z _ w4 hBI4.out hZI4.out (by omega)).mono ?_
                rintro e w5 ⟨rfl, hb5⟩
                have e0' : w5.cell? ⟨w2.heap.size, 0, none⟩ = some (.pointer (some ⟨bz, 0, none⟩)) := (hb5.cell (p := ⟨w2.heap.size, 0, none⟩) hs4).trans e0
                have e1' : w5.cell? ⟨w2.heap.size, 1, none⟩ = some (.int .i64 r) := (hb5.cell (p := ⟨w2.heap.size, 1, none⟩) hs4).trans e1
                have hB7 : Below w.heap.size w w5 := hB6.trans (hb5.mono hB6.size)
                have hI := zzInt bz _ (Q + frac) cap _ z r w5 (hBI4.out.below hb5 hBI4.out.lt) (hZI4.out.below hb5) (by omega)
                rw [hr] at hI
                have hI' := hid hI
                clear hI e0 e1 hB6 hb5 hBI4 hZI4 hs4
                go_wp2_with fail
                refine hI'.out.mono ?_
                rintro e w6 ⟨rfl, hb6⟩
                have hB8 : Below w.heap.size w w6 := hB7.trans (hb6.mono hB7.size)
                clear hb6 hI' e0' e1' hB7
                go_wp2_with fail
                go_ret
                exact ⟨rfl, hB8⟩

end Go.Proofs.Qxb6002384aFmt
