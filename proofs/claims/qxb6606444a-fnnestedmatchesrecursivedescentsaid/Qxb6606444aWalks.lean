/-
  THE WALKS of the walk's methods: fail, peek (at a quote), str, nested.
-/
import Derived.Test.Qxb6606444aRows
import Derived.Test.Qxb6606444aShelf
import Derived.Test.Qxb6606444aPlain
import Derived.WalkKit
import Derived.WalkSpells
import Derived.WalkLawsBesides
import Derived.Deep.LoopGhost
import Derived.Deep.QuietTactic
import Derived.BigQuiet
import Derived.Lib.Builder
set_option linter.unusedVariables false
namespace Go.Proofs.Qxb6606444a
open Go.RowKit Plain

theorem hid {p : Prop} (h : p) : Hid p := h

/-- The walk's struct, in block b. -/
def St (w : World) (b : Nat) (A : Value) (k : Int) (f : Bool) : Prop := w.heap[b]? = some (.cells #[A, .int .i64 k, .bool f] 33 (0, 0))
theorem St.c0 {w : World} {b : Nat} {A : Value} {k : Int} {f : Bool} (h : St w b A k f) : w.cell? ⟨b, 0, none⟩ = some A := by rw [Lib.cell_of_heap h]; rfl
theorem St.c1 {w : World} {b : Nat} {A : Value} {k : Int} {f : Bool} (h : St w b A k f) : w.cell? ⟨b, 1, none⟩ = some (.int .i64 k) := by rw [Lib.cell_of_heap h]; rfl
theorem St.c2 {w : World} {b : Nat} {A : Value} {k : Int} {f : Bool} (h : St w b A k f) : w.cell? ⟨b, 2, none⟩ = some (.bool f) := by rw [Lib.cell_of_heap h]; rfl
theorem St.f1 {w : World} {b : Nat} {A : Value} {k : Int} {f : Bool} (h : St w b A k f) : w.frozen? ⟨b, 1, none⟩ = false := Lib.frozen_of_heap h 1
theorem St.f2 {w : World} {b : Nat} {A : Value} {k : Int} {f : Bool} (h : St w b A k f) : w.frozen? ⟨b, 2, none⟩ = false := Lib.frozen_of_heap h 2
theorem St.put1 {w : World} {b : Nat} {A : Value} {k : Int} {f : Bool} (h : St w b A k f) (k' : Int) : St (w.setCell ⟨b, 1, none⟩ (.int .i64 k')) b A k' f := by
  unfold St at *
  simp [World.setCell, Array.getElem?_modify, h]
theorem St.put2 {w : World} {b : Nat} {A : Value} {k : Int} {f : Bool} (h : St w b A k f) (f' : Bool) : St (w.setCell ⟨b, 2, none⟩ (.bool f')) b A k f' := by
  unfold St at *
  simp [World.setCell, Array.getElem?_modify, h]

/-- The text: the bytes L from cell o of block g on. -/
def Txt (w : World) (g o : Nat) (L : List UInt8) : Prop := ∀ i (h : i < L.length), w.cell? ⟨g, o + i, none⟩ = some (.int .u8 (L[i].toNat : Int))
theorem Txt.below {w w' : World} {b g o : Nat} {L : List UInt8} (h : Txt w g o L) (hb : Below b w w') (hg : g < b) : Txt w' g o L := fun i hi => (hb.cell (p := ⟨g, o + i, none⟩) hg).trans (h i hi)

set_option maxHeartbeats 400000 in
theorem fail_any (b : Nat) (a : Option Addr) (n c : Nat) (k : Int) (f : Bool) (w : World) (h : St w b (.slice a n c) k f) :
    Calls Try.prog 18 #[.pointer (some ⟨b, 0, none⟩)] w fun e w' => e = .returned (.tuple #[]) ∧ St w' b (.slice a n c) n true ∧ Below b w w' := by
  have h0 := h.c0; have h1 := h.c1; have h2 := h.c2; have g1 := h.f1; have g2 := h.f2
  go_enter Try.func18, Try.ntmps18
  go_wp2
  go_end0
  exact ⟨rfl, (h.put2 true).put1 n, ((Below.refl b w).setCell (p := ⟨b, 2, none⟩) (Nat.le_refl _) _).setCell (p := ⟨b, 1, none⟩) (Nat.le_refl _) _⟩

set_option maxHeartbeats 400000 in
theorem peek_quote (b g o cap : Nat) (L : List UInt8) (k : Nat) (f : Bool) (w : World) (h : St w b (.slice (some ⟨g, o, none⟩) L.length cap) k f) (ht : Txt w g o L) (hk : k < L.length) (hq : L[k] = 34) (hc : L.length ≤ cap) :
    Calls Try.prog 20 #[.pointer (some ⟨b, 0, none⟩)] w fun e w' => e = .returned (.int .u8 34) ∧ St w' b (.slice (some ⟨g, o, none⟩) L.length cap) k f ∧ Txt w' g o L ∧ Below b w w' := by
  have h0 := h.c0; have h1 := h.c1
  have hx := ht k hk
  rw [hq] at hx
  have hx' : w.cell? ⟨g, o + k, none⟩ = some (.int .u8 34) := hx
  clear hx
  go_enter Try.func20, Try.ntmps20
  go_wp2
  refine wp_loop_rounds 1 ?_
  rw [rounds_succ]
  go_wp2
  go_quiet (fail)
  go_wp2
  go_quiet (fail)
  go_wp2
  go_ret
  exact ⟨rfl, h, ht, below_drewN (Below.refl _ _) _⟩

/-- Reading a string from place k + 1 on comes to the same as from place e on. -/
def sIs (L : List UInt8) (k e : Nat) : Prop := strL (L.drop (k + 1)) = strL (L.drop e)

theorem bytesOf_map (l : List UInt8) : Lib.bytesOf (l.map fun b => (b.toNat : Int)) = l := by
  unfold Lib.bytesOf
  rw [List.map_map]
  conv => rhs; rw [← List.map_id l]
  apply List.map_congr_left
  intro b _
  simp

theorem ib_any (g o n c : Nat) (a : Addr) (L : List UInt8) (e : Nat) (w : World) (ht : Txt w g o L) (hn : n = L.length - e) (ha : e < L.length → a = ⟨g, o + e, none⟩) :
    Calls Try.prog 21 #[.slice (some a) n c, .int .u8 34] w fun r w' => r = .returned (.int .i64 (Lib.indexByte (L.drop e) 34)) ∧ w' = w := by
  have h := Try.bytes_IndexByte_at a n c ((L.drop e).map fun b => (b.toNat : Int)) 34 w (by simp [hn]) (fun i hi => by
    have hi' : e + i < L.length := by omega
    rw [ha (by omega)]
    have := ht (e + i) hi'
    rw [show (⟨g, o + e, none⟩ : Addr).add i = ⟨g, o + (e + i), none⟩ by simp [Addr.add, Nat.add_assoc], this]
    simp [List.getElem?_drop, hi'])
  rw [bytesOf_map] at h
  exact h

/-- The m bytes ahead of place q are backslashes. -/
def slashes (L : List UInt8) (q m : Nat) : Prop := ∀ j, j < m → L[q - 1 - j]? = some 92

theorem slashes_more {L : List UInt8} {q m : Nat} (h : slashes L q m) (hb : L[q - m - 1]? = some 92) : slashes L q (m + 1) := by
  intro j hj
  rcases Nat.lt_or_ge j m with h1 | h1
  · exact h j h1
  · obtain rfl : j = m := by omega
    rw [show q - 1 - j = q - j - 1 by omega]; exact hb

theorem slashes_take {L : List UInt8} {e i m : Nat} (h : slashes L (e + i) m) (hm : m ≤ i) (hl : e + i ≤ L.length) : (L.drop e).take i = (L.drop e).take (i - m) ++ List.replicate m 92 := by
  apply List.ext_getElem?
  intro j
  rw [List.getElem?_take]
  by_cases hj : j < i
  · rw [if_pos hj, List.getElem?_append]
    have hlen : ((L.drop e).take (i - m)).length = i - m := by simp; omega
    rw [hlen]
    by_cases hj2 : j < i - m
    · rw [if_pos hj2, List.getElem?_take, if_pos hj2]
    · rw [if_neg hj2, List.getElem?_replicate, if_pos (by omega), List.getElem?_drop]
      have := h (i - 1 - j) (by omega)
      rw [← this]
      congr 1
      omega
  · rw [if_neg hj]
    symm
    rw [List.getElem?_eq_none]
    simp
    omega

theorem str_step {L : List UInt8} {k e i m : Nat} (hS : sIs L k e) (hE : L[e - 1]? = some 34) (hke : k < e) (hl : e + i < L.length) (h34 : (L.drop e).drop i = 34 :: (L.drop e).drop (i + 1) ∧ ∀ x ∈ (L.drop e).take i, (x == 34) = false)
    (hs : slashes L (e + i) m) (hm : m ≤ i) (hstop : e + i - m - 1 = k ∨ ∃ y, L[e + i - m - 1]? = some y ∧ (y == 92) = false) :
    strL (L.drop (k + 1)) = if m % 2 = 0 then some (L.drop (e + i + 1)) else strL (L.drop (e + i + 1)) := by
  have ht := slashes_take hs hm (by omega)
  have e1 : L.drop e = (L.drop e).take (i - m) ++ (List.replicate m 92 ++ 34 :: L.drop (e + i + 1)) := by
    have h1 : L.drop e = (L.drop e).take i ++ (L.drop e).drop i := (List.take_append_drop i (L.drop e)).symm
    rw [h34.1, ht, List.drop_drop, List.append_assoc] at h1
    exact h1
  unfold sIs at hS
  rw [hS, e1, strL_pass _ _ _ _, strL_slashes]
  · intro x hx
    refine h34.2 x ?_
    rw [ht]
    exact List.mem_append_left _ hx
  · intro y hy
    rw [List.getLast?_eq_getElem?, List.length_take, List.length_drop] at hy
    have hmin : min (i - m) (L.length - e) = i - m := by omega
    rw [hmin, List.getElem?_take] at hy
    by_cases h0 : i - m = 0
    · rw [if_neg (by omega)] at hy
      cases hy
    · rw [if_pos (by omega), List.getElem?_drop] at hy
      rcases hstop with hst | ⟨z, hz, hz2⟩
      · omega
      · rw [show e + (i - m - 1) = e + i - m - 1 by omega, hz] at hy
        simp only [Option.some.injEq] at hy
        rw [← hy]; exact hz2

theorem index_next {L : List UInt8} {e i : Nat} (h : (L.drop e).drop i = 34 :: (L.drop e).drop (i + 1) ∧ ∀ x ∈ (L.drop e).take i, (x == 34) = false) : L[e + i]? = some 34 := by
  have h1 := congrArg (·[0]?) h.1
  simp only [List.getElem?_drop, List.getElem?_cons_zero, Nat.add_zero] at h1
  exact h1

set_option maxHeartbeats 2000000 in
theorem str_any (b g o cap : Nat) (L : List UInt8) (k : Nat) (f : Bool) (w : World) (h : St w b (.slice (some ⟨g, o, none⟩) L.length cap) k f) (ht : Txt w g o L) (hk : k < L.length) (hq : L[k] = 34) (hc : L.length ≤ cap) (hg : g < b) (hl : L.length ≤ 2 ^ 40) (hcap : cap ≤ 2 ^ 62) :
    Calls Try.prog 17 #[.pointer (some ⟨b, 0, none⟩)] w fun e w' => ∃ v, e = .returned v ∧ ((strL (L.drop (k + 1)) = none ∧ St w' b (.slice (some ⟨g, o, none⟩) L.length cap) L.length true) ∨
      (∃ z : Nat, k + 1 < z ∧ z ≤ L.length ∧ strL (L.drop (k + 1)) = some (L.drop z) ∧ St w' b (.slice (some ⟨g, o, none⟩) L.length cap) z f)) ∧ Below b w w' := by
  go_enter Try.func17, Try.ntmps17
  go_wp2_with (go_at_call 20; refine (peek_quote b g o cap L k f _ h ht hk hq hc).mono ?_)
  rintro r w1 ⟨rfl, hA, htA, hb1⟩
  clear h ht
  have h0 := hA.c0; have h1 := hA.c1; have h2 := hA.c2; have g1 := hA.f1; have g2 := hA.f2
  go_wp2_with fail
  go_loop [4] (fun t => ∃ e : Nat, k < e ∧ e ≤ L.length ∧ t = .int .i64 e ∧ sIs L k e ∧ L[e - 1]? = some 34) (fun t => L.length - (intOf t).toNat)
  case atStart => exact ⟨k + 1, by omega, by omega, by go_num, rfl, by simp [hk, hq]⟩
  case round =>
    obtain ⟨e, he1, he2, rfl, hS, hE⟩ := hrel
    by_cases hn : Lib.indexByte (L.drop e) 34 = -1
    · have HN := hid (strL_none _ (index_none _ _ hn))
      by_cases hce : cap = e
      · go_wp2_with fail
        refine (ib_any g o _ _ _ L e _ htA rfl (fun hh => by omega)).mono ?_
        rintro r w' ⟨rfl, rfl⟩
        go_wp2_with fail
        refine (fail_any b _ _ _ k f _ hA).mono ?_
        rintro r w' ⟨rfl, h', hb'⟩
        go_wp2_with fail
        go_ret
        exact ⟨_, rfl, .inl ⟨by unfold sIs at hS; rw [hS]; exact HN.out, h'⟩, hb1.trans hb'⟩
      · go_wp2_with fail
        refine (ib_any g o _ _ _ L e _ htA rfl (fun hh => rfl)).mono ?_
        rintro r w' ⟨rfl, rfl⟩
        go_wp2_with fail
        refine (fail_any b _ _ _ k f _ hA).mono ?_
        rintro r w' ⟨rfl, h', hb'⟩
        go_wp2_with fail
        go_ret
        exact ⟨_, rfl, .inl ⟨by unfold sIs at hS; rw [hS]; exact HN.out, h'⟩, hb1.trans hb'⟩
    · obtain ⟨i, hi1, hi2, hi3, hi4⟩ := index_some (L.drop e) 34 _ rfl hn
      rw [List.length_drop] at hi2
      have hce : ¬ cap = e := by omega
      clear hn
      go_wp2_with fail
      refine (ib_any g o _ _ _ L e _ htA rfl (fun hh => rfl)).mono ?_
      rintro r w' ⟨rfl, rfl⟩
      have H34 := hid (And.intro hi3 hi4)
      clear hi3 hi4
      go_wp2_with fail
      go_loop [6] (fun t => ∃ m : Nat, m ≤ i ∧ t = .int .i64 m ∧ slashes L (e + i) m) (fun t => i - (intOf t).toNat)
      case atStart => exact ⟨0, by omega, rfl, fun j hj => by omega⟩
      case round =>
        obtain ⟨m, hm, rfl, hM⟩ := hrel
        by_cases hp : (k : Int) < (e : Int) + i - m - 1
        · have hpl : e + i - m - 1 < L.length := by omega
          have hx := htA (e + i - m - 1) hpl
          have ex : o + (e + i - m - 1) = o + ((e : Int) + i - m - 1).toNat := by omega
          have hx2 := hx
          rw [ex] at hx2
          clear ex
          by_cases hbx : ((L[e + i - m - 1].toNat : Int) == 92) = true
          · have hb92 : L[e + i - m - 1]? = some 92 := by
              rw [List.getElem?_eq_getElem hpl, Option.some.injEq, ← UInt8.toNat_inj]
              have h2 := of_decide_eq_true hbx
              show L[e + i - m - 1].toNat = 92
              omega
            have hmi : m + 1 ≤ i := by
              rcases Nat.lt_or_ge m i with h | h
              · exact h
              · obtain rfl : m = i := by omega
                rw [show e + m - m - 1 = e - 1 by omega, hE] at hb92
                exact absurd hb92 (by decide)
            have hM2 := slashes_more hM hb92
            clear hM hb92
            go_wp2_with fail
            go_round
            case rel => exact ⟨m + 1, hmi, by go_num, hM2⟩
            case measure => simp [intOf]; omega
          · have hbx' : ((L[e + i - m - 1].toNat : Int) == 92) = false := by simpa using hbx
            have HF := hid (str_step hS hE he1 (by omega) H34.out hM hm (.inr ⟨_, List.getElem?_eq_getElem hpl, by
              rw [beq_eq_false_iff_ne] at hbx' ⊢
              intro e1
              exact hbx' (by rw [e1]; rfl)⟩))
            have HE2 := hid (index_next H34.out)
            clear hbx hM hS hE
            have hck : ¬ cap = k := by omega
            by_cases hpar : m % 2 = 0
            · have hpar' : ((m : Int) % 2 == 0) = true := by rw [beq_iff_eq]; omega
              have HG := HF.out
              rw [if_pos hpar] at HG
              have HG' := hid HG
              clear HG HF hpar
              go_wp2_with fail
              go_ret
              exact ⟨⟨_, rfl⟩, .inr ⟨e + i + 1, by omega, by omega, HG'.out, hA.put1 _⟩, hb1.trans ((Below.refl b _).setCell (p := ⟨b, 1, none⟩) (Nat.le_refl _) _)⟩
            · have hpar' : ((m : Int) % 2 == 0) = false := by rw [beq_eq_false_iff_ne]; omega
              have HG := HF.out
              rw [if_neg hpar] at HG
              have hS2 : sIs L k (e + i + 1) := HG
              clear HG HF hpar
              go_wp2_with fail
              go_round
              case rel => exact ⟨e + i + 1, by omega, by omega, by go_num, hS2, by rw [Nat.add_sub_cancel]; exact HE2.out⟩
              case measure => simp [intOf]; omega
        · have HF := hid (str_step hS hE he1 (by omega) H34.out hM hm (.inl (by omega)))
          have HE2 := hid (index_next H34.out)
          clear hM hS hE
          have hck : ¬ cap = k := by omega
          by_cases hpar : m % 2 = 0
          · have hpar' : ((m : Int) % 2 == 0) = true := by rw [beq_iff_eq]; omega
            have HG := HF.out
            rw [if_pos hpar] at HG
            have HG' := hid HG
            clear HG HF hpar
            go_wp2_with fail
            go_ret
            exact ⟨⟨_, rfl⟩, .inr ⟨e + i + 1, by omega, by omega, HG'.out, hA.put1 _⟩, hb1.trans ((Below.refl b _).setCell (p := ⟨b, 1, none⟩) (Nat.le_refl _) _)⟩
          · have hpar' : ((m : Int) % 2 == 0) = false := by rw [beq_eq_false_iff_ne]; omega
            have HG := HF.out
            rw [if_neg hpar] at HG
            have hS2 : sIs L k (e + i + 1) := HG
            clear HG HF hpar
            go_wp2_with fail
            go_round
            case rel => exact ⟨e + i + 1, by omega, by omega, by go_num, hS2, by rw [Nat.add_sub_cancel]; exact HE2.out⟩
            case measure => simp [intOf]; omega
end Go.Proofs.Qxb6606444a
