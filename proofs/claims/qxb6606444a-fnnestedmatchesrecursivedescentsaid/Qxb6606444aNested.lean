/-
  THE WALK of nested, and of ZZNested.
-/
import Derived.Test.Qxb6606444aWalks
set_option linter.unusedVariables false
namespace Go.Proofs.Qxb6606444a
open Go.RowKit Plain

/-- What nested leaves: the place, and whether it has failed. -/
def nEnd (L : List UInt8) (k : Nat) (f : Bool) : Int := match grp (L.drop k) 0 false f with
  | none => L.length
  | some (r, _) => (L.length : Int) - r.length
def nBad (L : List UInt8) (k : Nat) (f : Bool) : Bool := match grp (L.drop k) 0 false f with
  | none => true
  | some _ => f

def gIs (L : List UInt8) (j d : Nat) (f : Bool) (R : Option (List UInt8 × Bool)) : Prop := grp (L.drop j) d false f = R

theorem drop_get (L : List UInt8) (j : Nat) (h : j < L.length) : L.drop j = L[j] :: L.drop (j + 1) := List.drop_eq_getElem_cons h

theorem eqb (c : UInt8) (n : Nat) (h : n < 256) : (c == n.toUInt8) = ((c.toNat : Int) == (n : Int)) := by
  rw [Bool.eq_iff_iff, beq_iff_eq, beq_iff_eq, ← UInt8.toNat_inj]
  have : n.toUInt8.toNat = n := by simp [Nat.toUInt8, UInt8.toNat_ofNat']; omega
  rw [this]; omega
theorem b34 (c : UInt8) : (c == 34) = ((c.toNat : Int) == 34) := eqb c 34 (by omega)
theorem jOpen_eq (c : UInt8) : jOpen c = ((c.toNat : Int) == 123 || (c.toNat : Int) == 91) := by
  unfold jOpen; rw [show (c == 123) = ((c.toNat : Int) == 123) from eqb c 123 (by omega), show (c == 91) = ((c.toNat : Int) == 91) from eqb c 91 (by omega)]
theorem jClose_eq (c : UInt8) : jClose c = ((c.toNat : Int) == 125 || (c.toNat : Int) == 93) := by
  unfold jClose; rw [show (c == 125) = ((c.toNat : Int) == 125) from eqb c 125 (by omega), show (c == 93) = ((c.toNat : Int) == 93) from eqb c 93 (by omega)]

theorem nFail {L : List UInt8} {k : Nat} {f : Bool} {R} (hR : gIs L k 0 f R) (h : R = none) : nEnd L k f = L.length ∧ nBad L k f = true := by
  unfold gIs at hR
  unfold nEnd nBad
  rw [hR, h]; exact ⟨rfl, rfl⟩
theorem nDone {L : List UInt8} {k z : Nat} {f s : Bool} {R} (hR : gIs L k 0 f R) (hz : z ≤ L.length) (h : R = some (L.drop z, s)) : nEnd L k f = z ∧ nBad L k f = f := by
  unfold gIs at hR
  unfold nEnd nBad
  rw [hR, h]
  refine ⟨?_, rfl⟩
  simp only [List.length_drop]
  omega

theorem gIs_quote {L : List UInt8} {j d : Nat} {f : Bool} {R} (h : gIs L j d f R) (hj : j < L.length) (c : L[j] = 34) : R = match strL (L.drop (j + 1)) with
    | none => none
    | some r => if f then some (r, true) else grp r d false f := by
  unfold gIs at h
  rw [← h, drop_get L j hj, c, grp_quote, grp_str]
  cases strL (L.drop (j + 1)) <;> rfl
theorem gIs_over {L : List UInt8} {j d : Nat} {f : Bool} {R} (h : gIs L j d f R) (hj : ¬ j < L.length) : R = none := by
  unfold gIs at h
  rw [List.drop_of_length_le (by omega)] at h
  rw [← h]; cases f <;> rfl
theorem gIs_open {L : List UInt8} {j d : Nat} {f : Bool} {R} (h : gIs L j d f R) (hj : j < L.length) (c0 : ((L[j].toNat : Int) == 34) = false) (c1 : jOpen L[j] = true) : gIs L (j + 1) (d + 1) f R := by
  unfold gIs at *
  rw [drop_get L j hj, grp_open _ _ _ _ (by rw [b34]; exact c0) c1] at h; exact h
theorem gIs_close1 {L : List UInt8} {j d : Nat} {f : Bool} {R} (h : gIs L j (d + 1) f R) (hj : j < L.length) (c0 : ((L[j].toNat : Int) == 34) = false) (c1 : jOpen L[j] = false) (c2 : jClose L[j] = true) (hd : d = 0) : R = some (L.drop (j + 1), false) := by
  unfold gIs at *
  subst hd
  rw [drop_get L j hj, grp_close _ _ _ _ (by rw [b34]; exact c0) c1 c2] at h; exact h.symm
theorem gIs_close {L : List UInt8} {j d : Nat} {f : Bool} {R} (h : gIs L j (d + 1) f R) (hj : j < L.length) (c0 : ((L[j].toNat : Int) == 34) = false) (c1 : jOpen L[j] = false) (c2 : jClose L[j] = true) (hd : 0 < d) : gIs L (j + 1) d f R := by
  unfold gIs at *
  rw [drop_get L j hj, grp_close _ _ _ _ (by rw [b34]; exact c0) c1 c2, if_neg (by simp; omega)] at h; exact h
theorem gIs_byte {L : List UInt8} {j d : Nat} {f : Bool} {R} (h : gIs L j d f R) (hj : j < L.length) (c0 : ((L[j].toNat : Int) == 34) = false) (c1 : jOpen L[j] = false) (c2 : jClose L[j] = false) : gIs L (j + 1) d f R := by
  unfold gIs at *
  rw [drop_get L j hj, grp_byte _ _ _ _ (by rw [b34]; exact c0) c1 c2] at h; exact h
theorem hbs (b : Nat) (w : World) (v : Value) {m : Nat} : Below b w ((w.setCell ⟨b, 1, none⟩ v).drewN m) := below_drewN ((Below.refl b w).setCell (p := ⟨b, 1, none⟩) (Nat.le_refl _) _) m
theorem below_of_drewN {B n : Nat} {w w' : World} (h : Below B (w.drewN n) w') : Below B w w' := ⟨h.os, h.tape, h.output, h.size, h.block⟩
theorem of34 {c : UInt8} (h : ((c.toNat : Int) == 34) = true) : c = 34 := by rw [← b34] at h; simpa using h
theorem St.to {w : World} {b : Nat} {A : Value} {k k' : Int} {f f' : Bool} (h : St w b A k f) (e : k' = k ∧ f' = f) : St w b A k' f' := by obtain ⟨rfl, rfl⟩ := e; exact h

set_option maxHeartbeats 2000000 in
theorem nested_any (b g o cap : Nat) (L : List UInt8) (k : Nat) (f : Bool) (w : World) (h : St w b (.slice (some ⟨g, o, none⟩) L.length cap) k f) (ht : Txt w g o L) (hk : k < L.length) (hq : jOpen L[k] = true) (hc : L.length ≤ cap) (hg : g < b) (hl : L.length ≤ 2 ^ 40) (hcap : cap ≤ 2 ^ 62) :
    Calls Try.prog 15 #[.pointer (some ⟨b, 0, none⟩)] w fun e w' => e = .returned (.tuple #[]) ∧ St w' b (.slice (some ⟨g, o, none⟩) L.length cap) (nEnd L k f) (nBad L k f) ∧ Below b w w' := by
  obtain ⟨R, hR⟩ : ∃ R, gIs L k 0 f R := ⟨_, rfl⟩
  go_enter Try.func15, Try.ntmps15
  go_wp2
  go_loopg [2] (L.length - k) (fun gk t wr => ∃ (j d : Nat), gk = L.length - j ∧ j ≤ L.length ∧ t = .int .i64 d ∧ d ≤ j ∧ St wr b (.slice (some ⟨g, o, none⟩) L.length cap) j f ∧ Txt wr g o L ∧ Below b w wr ∧ gIs L j d f R ∧ (1 ≤ d ∨ (∃ h : j < L.length, jOpen L[j] = true)))
  case atStart => exact ⟨k, 0, rfl, by omega, rfl, by omega, h, ht, Below.refl _ _, hR, .inr ⟨hk, hq⟩⟩
  case round =>
    clear h ht
    obtain ⟨j, d, rfl, hj, rfl, hdj, hSt, hT, hbw, hG, hd⟩ := hrel
    have h0 := hSt.c0; have h1 := hSt.c1; have h2 := hSt.c2; have g1 := hSt.f1; have g2 := hSt.f2
    by_cases hlt : (j : Int) < L.length
    · have hlt' : j < L.length := by omega
      have hx := hT j hlt'
      by_cases c34 : ((L[j].toNat : Int) == 34) = true
      · have hL := of34 c34
        have hd1 : 1 ≤ d := by
          rcases hd with hd | ⟨_, ho⟩
          · exact hd
          · rw [hL] at ho; exact absurd ho (by decide)
        have HQ := hid (gIs_quote hG hlt' hL)
        clear hG hd
        go_wp2
        go_quiet (fail)
        go_wp2
        go_quiet (fail)
        go_wp2_with fail
        refine (str_any b g o cap L j f _ (by exact hSt) (by exact hT) hlt' hL hc hg hl hcap).mono ?_
        rintro e w1 ⟨v, rfl, hcase, hb0⟩
        have hb1 := below_of_drewN hb0
        clear hb0
        rcases hcase with ⟨hn, hS1⟩ | ⟨z, hz1, hz2, hzs, hS1⟩
        · have HF := hid (nFail hR (by rw [HQ.out, hn]))
          clear h0 h1 h2 g1 g2
          have h2 := hS1.c2
          clear hn
          go_wp2_with fail
          refine bodyPost_ret (results_none (by rfl) _ _ _) rfl ?_
          exact ⟨rfl, hS1.to HF.out, hbw.trans hb1⟩
        · have hQ := HQ.out
          rw [hzs] at hQ
          clear h0 h1 h2 g1 g2 hx
          have h2 := hS1.c2
          have hT1 := hT.below (w' := w1) hb1 hg
          clear hzs HQ
          cases f with
          | true =>
            have HF := hid (nDone (s := true) hR hz2 (by rw [hQ]; rfl))
            clear hQ
            go_wp2_with fail
            refine bodyPost_ret (results_none (by rfl) _ _ _) rfl ?_
            exact ⟨rfl, hS1.to HF.out, hbw.trans hb1⟩
          | false =>
            have hG2 : gIs L z d false R := by unfold gIs; rw [hQ]; rfl
            clear hQ
            go_wp2_with fail
            go_roundg (L.length - z)
            case measure => omega
            case rel => exact ⟨z, d, rfl, hz2, rfl, by omega, hS1, hT1, hbw.trans hb1, hG2, .inl hd1⟩
      · have n34 : ((L[j].toNat : Int) == 34) = false := by simpa using c34
        clear c34
        by_cases c123 : ((L[j].toNat : Int) == 123) = true
        · have hG2 := gIs_open hG hlt' n34 (by rw [jOpen_eq, c123]; rfl)
          clear hG hd
          go_wp2
          go_quiet (fail)
          go_wp2
          go_quiet (fail)
          go_wp2_with fail
          go_roundg (L.length - (j + 1))
          case measure => omega
          case rel => exact ⟨j + 1, d + 1, rfl, by omega, by go_num, by omega, hSt.put1 _, hT.below (hbs _ _ _) hg, hbw.trans (hbs _ _ _), hG2, .inl (by omega)⟩
        · have n123 : ((L[j].toNat : Int) == 123) = false := by simpa using c123
          clear c123
          by_cases c91 : ((L[j].toNat : Int) == 91) = true
          · have hG2 := gIs_open hG hlt' n34 (by rw [jOpen_eq, c91, Bool.or_true])
            clear hG hd
            go_wp2
            go_quiet (fail)
            go_wp2
            go_quiet (fail)
            go_wp2_with fail
            go_roundg (L.length - (j + 1))
            case measure => omega
            case rel => exact ⟨j + 1, d + 1, rfl, by omega, by go_num, by omega, hSt.put1 _, hT.below (hbs _ _ _) hg, hbw.trans (hbs _ _ _), hG2, .inl (by omega)⟩
          · have n91 : ((L[j].toNat : Int) == 91) = false := by simpa using c91
            clear c91
            have no : jOpen L[j] = false := by rw [jOpen_eq, n123, n91]; rfl
            have hd1 : 1 ≤ d := by
              rcases hd with hd | ⟨_, ho⟩
              · exact hd
              · rw [no] at ho; cases ho
            clear hd
            obtain ⟨d, rfl⟩ : ∃ d', d = d' + 1 := ⟨d - 1, by omega⟩
            by_cases hcl : jClose L[j] = true
            · by_cases hz : 0 < d
              · have hz' : ((d : Int) == 0) = false := by rw [beq_eq_false_iff_ne]; omega
                have hG2 := gIs_close hG hlt' n34 no hcl hz
                clear hG no
                rw [jClose_eq] at hcl
                by_cases c125 : ((L[j].toNat : Int) == 125) = true
                · clear hcl
                  go_wp2
                  go_quiet (fail)
                  go_wp2
                  go_quiet (fail)
                  go_wp2_with fail
                  go_roundg (L.length - (j + 1))
                  case measure => omega
                  case rel => exact ⟨j + 1, d, rfl, by omega, by go_num, by omega, hSt.put1 _, hT.below (hbs _ _ _) hg, hbw.trans (hbs _ _ _), hG2, .inl (by omega)⟩
                · have n125 : ((L[j].toNat : Int) == 125) = false := by simpa using c125
                  have c93 : ((L[j].toNat : Int) == 93) = true := by rw [n125, Bool.false_or] at hcl; exact hcl
                  clear hcl c125
                  go_wp2
                  go_quiet (fail)
                  go_wp2
                  go_quiet (fail)
                  go_wp2_with fail
                  go_roundg (L.length - (j + 1))
                  case measure => omega
                  case rel => exact ⟨j + 1, d, rfl, by omega, by go_num, by omega, hSt.put1 _, hT.below (hbs _ _ _) hg, hbw.trans (hbs _ _ _), hG2, .inl (by omega)⟩
              · have hz' : ((d : Int) == 0) = true := by rw [beq_iff_eq]; omega
                have HF := hid (nDone (s := false) (z := j + 1) hR (by omega) (gIs_close1 hG hlt' n34 no hcl (by omega)))
                clear hG no
                rw [jClose_eq] at hcl
                by_cases c125 : ((L[j].toNat : Int) == 125) = true
                · clear hcl
                  go_wp2
                  go_quiet (fail)
                  go_wp2
                  go_quiet (fail)
                  go_wp2_with fail
                  refine bodyPost_ret (results_none (by rfl) _ _ _) rfl ?_
                  exact ⟨rfl, (hSt.put1 _).to HF.out, hbw.trans (hbs _ _ _)⟩
                · have n125 : ((L[j].toNat : Int) == 125) = false := by simpa using c125
                  have c93 : ((L[j].toNat : Int) == 93) = true := by rw [n125, Bool.false_or] at hcl; exact hcl
                  clear hcl c125
                  go_wp2
                  go_quiet (fail)
                  go_wp2
                  go_quiet (fail)
                  go_wp2_with fail
                  refine bodyPost_ret (results_none (by rfl) _ _ _) rfl ?_
                  exact ⟨rfl, (hSt.put1 _).to HF.out, hbw.trans (hbs _ _ _)⟩
            · have ncl : jClose L[j] = false := by simpa using hcl
              have hG2 := gIs_byte hG hlt' n34 no ncl
              clear hG no hcl
              rw [jClose_eq] at ncl
              have n125 : ((L[j].toNat : Int) == 125) = false := by
                cases hh : ((L[j].toNat : Int) == 125)
                · rfl
                · rw [hh] at ncl; cases ncl
              have n93 : ((L[j].toNat : Int) == 93) = false := by rw [n125, Bool.false_or] at ncl; exact ncl
              clear ncl
              go_wp2
              go_quiet (fail)
              go_wp2
              go_quiet (fail)
              go_wp2_with fail
              go_roundg (L.length - (j + 1))
              case measure => omega
              case rel => exact ⟨j + 1, d + 1, rfl, by omega, by go_num, by omega, hSt.put1 _, hT.below (hbs _ _ _) hg, hbw.trans (hbs _ _ _), hG2, .inl (by omega)⟩
    · have HF := hid (nFail hR (gIs_over hG (by omega)))
      have hlt2 : decide ((j : Int) < L.length) = false := by simpa using hlt
      clear hG hd
      go_wp2
      go_quiet (fail)
      go_wp2_with fail
      refine (fail_any b _ _ _ j f _ (by exact hSt)).mono ?_
      rintro e w1 ⟨rfl, hS1, hb0⟩
      have hb1 := below_of_drewN hb0
      clear hb0
      go_wp2_with fail
      go_end0
      exact ⟨rfl, hS1.to HF.out, hbw.trans hb1⟩

set_option maxHeartbeats 1000000 in
/-- At or behind the text's end: it fails. -/
theorem nested_over (b : Nat) (a : Option Addr) (n c : Nat) (k : Int) (f : Bool) (w : World) (h : St w b (.slice a n c) k f) (hk : ¬ k < n) :
    Calls Try.prog 15 #[.pointer (some ⟨b, 0, none⟩)] w fun e w' => e = .returned (.tuple #[]) ∧ St w' b (.slice a n c) n true ∧ Below b w w' := by
  have h0 := h.c0; have h1 := h.c1; have h2 := h.c2; have g1 := h.f1; have g2 := h.f2
  have hlt2 : decide (k < n) = false := by simpa using hk
  go_enter Try.func15, Try.ntmps15
  go_wp2
  refine wp_loop_rounds 1 ?_
  rw [rounds_succ]
  go_wp2
  go_quiet (fail)
  go_wp2_with fail
  refine (fail_any b _ _ _ k f _ (by exact h)).mono ?_
  rintro e w1 ⟨rfl, hS1, hb0⟩
  have hb1 := below_of_drewN hb0
  clear hb0
  go_wp2_with fail
  go_end0
  exact ⟨rfl, hS1, hb1⟩

set_option maxHeartbeats 1000000 in
theorem zzNested_any (g o cap n : Nat) (L : List UInt8) (m : Int) (k : Nat) (f : Bool) (w : World) (hn : n = L.length) (hm : m = k) (ht : Txt w g o L) (hk : k < L.length) (hq : jOpen L[k] = true) (hc : L.length ≤ cap) (hg : g < w.heap.size) (hl : L.length ≤ 2 ^ 40) (hcap : cap ≤ 2 ^ 62) :
    Calls Try.prog 9 #[.slice (some ⟨g, o, none⟩) n cap, .int .i64 m, .bool f] w fun e w' => e = .returned (.tuple #[.int .i64 (nEnd L k f), .bool (nBad L k f)]) ∧ Below w.heap.size w w' := by
  subst hn hm
  have hS0 : St (w.alloc (.cells #[.slice (some ⟨g, o, none⟩) L.length cap, .int .i64 k, .bool f] 33)) w.heap.size (.slice (some ⟨g, o, none⟩) L.length cap) k f := heap_alloc_new w _
  have hb0 : Below w.heap.size w (w.alloc (.cells #[.slice (some ⟨g, o, none⟩) L.length cap, .int .i64 k, .bool f] 33)) := (Below.refl _ w).alloc (Nat.le_refl _) _
  go_enter Try.func9, Try.ntmps9
  go_wp2_with fail
  refine (nested_any w.heap.size g o cap L k f _ hS0 (ht.below hb0 hg) hk hq hc hg hl hcap).mono ?_
  rintro e w1 ⟨rfl, hS1, hb1⟩
  have h1 := hS1.c1; have h2 := hS1.c2
  go_wp2
  go_quiet (fail)
  go_wp2
  go_ret2
  exact ⟨rfl, below_drewN (hb0.trans hb1) _⟩

set_option maxHeartbeats 1000000 in
theorem zzNested_over (a : Option Addr) (n cap : Nat) (m : Int) (f : Bool) (w : World) (hk : ¬ m < n) :
    Calls Try.prog 9 #[.slice a n cap, .int .i64 m, .bool f] w fun e w' => e = .returned (.tuple #[.int .i64 n, .bool true]) ∧ Below w.heap.size w w' := by
  have hS0 : St (w.alloc (.cells #[.slice a n cap, .int .i64 m, .bool f] 33)) w.heap.size (.slice a n cap) m f := heap_alloc_new w _
  have hb0 : Below w.heap.size w (w.alloc (.cells #[.slice a n cap, .int .i64 m, .bool f] 33)) := (Below.refl _ w).alloc (Nat.le_refl _) _
  go_enter Try.func9, Try.ntmps9
  go_wp2_with fail
  refine (nested_over w.heap.size a n cap m f _ hS0 (by omega)).mono ?_
  rintro e w1 ⟨rfl, hS1, hb1⟩
  have h1 := hS1.c1; have h2 := hS1.c2
  go_wp2
  go_quiet (fail)
  go_wp2
  go_ret2
  exact ⟨rfl, below_drewN (hb0.trans hb1) _⟩
end Go.Proofs.Qxb6606444a
