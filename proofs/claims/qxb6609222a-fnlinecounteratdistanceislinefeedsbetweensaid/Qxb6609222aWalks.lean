/-
  THE WALKS of lineCounter.at, ZZnewLineCounter, ZZlineCounterAt, zzCloneBytes, zzCountLF.
-/
import Derived.Test.Qxb6609222aRows
import Derived.Test.Qxb6609222aShelf
import Derived.WalkKit
import Derived.WalkSpells
import Derived.WalkLawsBesides
import Derived.Deep.RegionHeld3
import Derived.Deep.RegionWith
import Derived.Deep.Cut
import Derived.Deep.CutRange
import Derived.Deep.DrawnRows
import Derived.Lib.Builder
set_option linter.unusedVariables false
namespace Go.Proofs.Qxb6609222a
open Go.RowKit

theorem hid {p : Prop} (h : p) : Hid p := h

/-- How many line feeds lie among the first k bytes. -/
def lf (L : List UInt8) (k : Nat) : Nat := (L.take k).count 10
theorem lf_zero (L : List UInt8) : lf L 0 = 0 := by simp [lf]
theorem lf_split (L : List UInt8) (p o : Nat) (h : p ≤ o) : lf L o = lf L p + ((L.drop p).take (o - p)).count 10 := by
  unfold lf
  rw [← List.count_append]
  congr 1
  have := List.take_add (l := L) (i := p) (j := o - p)
  rw [show p + (o - p) = o by omega] at this
  exact this
theorem lf_le (L : List UInt8) (k : Nat) : lf L k ≤ L.length := by
  unfold lf
  have h1 := List.count_le_length (a := (10 : UInt8)) (l := L.take k)
  have h2 : (L.take k).length ≤ L.length := by simp; omega
  omega

/-- The counter, in block b. -/
def Lc (w : World) (b : Nat) (A : Value) (p q : Int) : Prop := w.heap[b]? = some (.cells #[A, .int .i64 p, .int .i64 q] 32 (0, 0))
theorem Lc.c0 {w : World} {b : Nat} {A : Value} {p q : Int} (h : Lc w b A p q) : w.cell? ⟨b, 0, none⟩ = some A := by rw [Lib.cell_of_heap h]; rfl
theorem Lc.c1 {w : World} {b : Nat} {A : Value} {p q : Int} (h : Lc w b A p q) : w.cell? ⟨b, 1, none⟩ = some (.int .i64 p) := by rw [Lib.cell_of_heap h]; rfl
theorem Lc.c2 {w : World} {b : Nat} {A : Value} {p q : Int} (h : Lc w b A p q) : w.cell? ⟨b, 2, none⟩ = some (.int .i64 q) := by rw [Lib.cell_of_heap h]; rfl
theorem Lc.f1 {w : World} {b : Nat} {A : Value} {p q : Int} (h : Lc w b A p q) : w.frozen? ⟨b, 1, none⟩ = false := Lib.frozen_of_heap h 1
theorem Lc.f2 {w : World} {b : Nat} {A : Value} {p q : Int} (h : Lc w b A p q) : w.frozen? ⟨b, 2, none⟩ = false := Lib.frozen_of_heap h 2

/-- The data: the bytes L from cell o of block g on. -/
def Txt (w : World) (g o : Nat) (L : List UInt8) : Prop := ∀ i (h : i < L.length), w.cell? ⟨g, o + i, none⟩ = some (.int .u8 (L[i].toNat : Int))
theorem Txt.below {w w' : World} {b g o : Nat} {L : List UInt8} (h : Txt w g o L) (hb : Below b w w') (hg : g < b) : Txt w' g o L := fun i hi => (hb.cell (p := ⟨g, o + i, none⟩) hg).trans (h i hi)

theorem bytesOf_map (l : List UInt8) : Lib.bytesOf (l.map fun b => (b.toNat : Int)) = l := by
  unfold Lib.bytesOf
  rw [List.map_map]
  conv => rhs; rw [← List.map_id l]
  apply List.map_congr_left
  intro b _
  simp

theorem count_any (g o n c b2 o2 d p : Nat) (a : Addr) (L : List UInt8) (w : World) (ht : Txt w g o L) (hn : p + n ≤ L.length) (ha : 0 < n → a = ⟨g, o + p, none⟩) (hc2 : w.cell? ⟨b2, o2, none⟩ = some (.int .u8 10)) :
    Calls Try.prog 12 #[.slice (some a) n c, .slice (some ⟨b2, o2, none⟩) 1 d] w fun e w' => e = .returned (.int .i64 (((L.drop p).take n).count 10 : Nat)) ∧ w' = w := by
  have h := Try.bytes_Count_one_at a n c b2 o2 d (((L.drop p).take n).map fun b => (b.toNat : Int)) 10 w (by simp; omega) (fun i hi => by
    have hi' : p + i < L.length := by omega
    rw [ha (by omega)]
    have := ht (p + i) hi'
    rw [show (⟨g, o + p, none⟩ : Addr).add i = ⟨g, o + (p + i), none⟩ by simp [Addr.add, Nat.add_assoc], this]
    simp [List.getElem?_drop, hi, hi']) hc2
  rw [bytesOf_map] at h
  exact h

/-- A slice of bytes whose bytes are L, in memory below block B. -/
def Data (w : World) (B : Nat) (A : Value) (L : List UInt8) : Prop :=
  (A = .slice none 0 0 ∧ L = []) ∨ ∃ g o cap, A = .slice (some ⟨g, o, none⟩) L.length cap ∧ L.length ≤ cap ∧ cap ≤ 2 ^ 62 ∧ g < B ∧ Txt w g o L
theorem Data.below {w w' : World} {B B' : Nat} {A : Value} {L : List UInt8} (h : Data w B A L) (hb : Below B w w') (hB : B ≤ B') : Data w' B' A L := by
  rcases h with h | ⟨g, o, cap, h1, h2, h3, h4, h5⟩
  · exact .inl h
  · exact .inr ⟨g, o, cap, h1, h2, h3, by omega, h5.below hb h4⟩
theorem Data.is {w : World} {B : Nat} {A : Value} {L : List UInt8} (h : Data w B A L) : ∃ a c, A = .slice a L.length c := by
  rcases h with ⟨rfl, rfl⟩ | ⟨g, o, cap, rfl, _⟩
  · exact ⟨_, _, rfl⟩
  · exact ⟨_, _, rfl⟩

theorem Data.part {w : World} {B : Nat} {A : Value} {L : List UInt8} (h : Data w B A L) (s k : Nat) (hs : s ≤ k) (hk : k ≤ L.length) :
    ∃ V, (∀ W, (Instr.slice 22 A (some (.int .i64 s)) (some (.int .i64 k)) none).run Try.prog W = .ok V W) ∧
      ∀ W b2, Below B w W → W.cell? ⟨b2, 0, none⟩ = some (.int .u8 10) → Calls Try.prog 12 #[V, .slice (some ⟨b2, 0, none⟩) 1 1] W fun e w' => e = .returned (.int .i64 (((L.drop s).take (k - s)).count 10 : Nat)) ∧ w' = W := by
  have i1 : (0 : Int) ≤ (s : Int) := by omega
  have i2 : (s : Int) ≤ (k : Int) := by omega
  rcases h with ⟨rfl, rfl⟩ | ⟨g, o, cap, rfl, h2, h3, h4, h5⟩
  · obtain rfl : k = 0 := by simpa using hk
    obtain rfl : s = 0 := by omega
    refine ⟨.slice none 0 0, fun W => by go_simp, fun W b2 _ hc => ?_⟩
    have := Try.bytes_Count_one_nil b2 0 1 10 W hc
    simpa using this
  · have i3 : (k : Int) ≤ (cap : Int) := by omega
    by_cases hcs : cap = s
    · subst hcs
      obtain rfl : k = cap := by omega
      refine ⟨.slice (some ⟨g, o, none⟩) 0 0, fun W => by go_simp, fun W b2 hb hc => ?_⟩
      rw [Nat.sub_self]
      exact count_any g o 0 _ b2 0 1 k _ L W (h5.below hb h4) (by omega) (fun h => by omega) hc
    · refine ⟨.slice (some ⟨g, o + s, none⟩) (k - s) (cap - s), fun W => by go_simp, fun W b2 hb hc => ?_⟩
      exact count_any g o (k - s) _ b2 0 1 s _ L W (h5.below hb h4) (by omega) (fun h => rfl) hc

theorem Lc.lt {w : World} {b : Nat} {A : Value} {p q : Int} (h : Lc w b A p q) : b < w.heap.size := by
  unfold Lc at h
  exact (Array.getElem?_eq_some_iff.1 h).1
theorem Lc.put1 {w : World} {b : Nat} {A : Value} {p q : Int} (h : Lc w b A p q) (p' : Int) : Lc (w.setCell ⟨b, 1, none⟩ (.int .i64 p')) b A p' q := by
  unfold Lc at *
  simp [World.setCell, Array.getElem?_modify, h]
theorem Lc.put2 {w : World} {b : Nat} {A : Value} {p q : Int} (h : Lc w b A p q) (q' : Int) : Lc (w.setCell ⟨b, 2, none⟩ (.int .i64 q')) b A p q' := by
  unfold Lc at *
  simp [World.setCell, Array.getElem?_modify, h]
theorem Lc.alloc {w : World} {b : Nat} {A : Value} {p q : Int} (h : Lc w b A p q) (o : Obj) : Lc (w.alloc o) b A p q := (Lib.alloc_old w o b h.lt).trans h

theorem lc_behind {wc : World} {b s n : Nat} {A : Value} {L : List UInt8} {k : Nat} (h : Lc wc b A s (1 + (lf L s : Int))) (hs : lf L k = lf L s + n) (hl : L.length ≤ 2 ^ 40) : Lc ((wc.setCell ⟨b, 2, none⟩ (.int .i64 (IntKind.i64.wrap (1 + (lf L s : Int) + n)))).alloc (.cells #[.int .u8 10] 5)).drew b A s (1 + (lf L k : Int)) := by
  have hle := lf_le L k
  have e : IntKind.i64.wrap (1 + (lf L s : Int) + n) = 1 + (lf L k : Int) := by
    rw [IntKind.wrap_i64, hs]
    omega
  rw [e]
  exact (h.put2 _).alloc _

theorem below_behind {wc : World} {b : Nat} (h : b < wc.heap.size) (v : Value) (o : Obj) : Below b wc ((wc.setCell ⟨b, 2, none⟩ v).alloc o).drew :=
  (((Below.refl b wc).setCell (p := ⟨b, 2, none⟩) (Nat.le_refl _) _).alloc (by simp; omega) _).drew

attribute [local go_sem ↓] Go.wp_at_zero Go.wp_at_succ
set_option maxHeartbeats 1000000 in
theorem at_any (b : Nat) (A : Value) (L : List UInt8) (p k : Nat) (m : Int) (w : World) (hm : m = k) (h : Lc w b A p (1 + (lf L p : Int))) (hD : Data w b A L) (hp : p ≤ L.length) (hk : k ≤ L.length) (hl : L.length ≤ 2 ^ 40) :
    Calls Try.prog 11 #[.pointer (some ⟨b, 0, none⟩), .int .i64 m] w fun e w' => e = .returned (.int .i64 (1 + (lf L k : Int))) ∧ Lc w' b A k (1 + (lf L k : Int)) ∧ Below b w w' := by
  subst hm
  have h0 := h.c0; have h1 := h.c1; have h2 := h.c2; have f1 := h.f1; have f2 := h.f2
  go_enter Try.func11, Try.ntmps11
  go_upto_if 10 with fail
  go_cut [] from 5 (fun wr => ∃ s : Nat, s ≤ k ∧ Lc wr b A s (1 + (lf L s : Int)) ∧ Below b w wr)
  case first =>
    by_cases hlt : k < p
    · go_wp2_with fail
      go_meet
      case rel => exact ⟨0, by omega, by rw [lf_zero]; exact (h.put1 0).put2 1, ((Below.refl b w).setCell (p := ⟨b, 1, none⟩) (Nat.le_refl _) _).setCell (p := ⟨b, 2, none⟩) (Nat.le_refl _) _⟩
    · go_wp2_with fail
      go_meet
      case rel => exact ⟨p, by omega, h, Below.refl _ _⟩
  case rest =>
    clear h0 h1 h2 f1 f2 h
    obtain ⟨s, hs, hLc, hbw⟩ := hcut
    have hD1 := hD.below hbw (Nat.le_refl _)
    obtain ⟨V, hV, hcall⟩ := hD1.part s k hs hk
    have h0 := hLc.c0; have h1 := hLc.c1; have h2 := hLc.c2; have f1 := hLc.f1; have f2 := hLc.f2
    have hlt := hLc.lt
    have HC := hid (hcall (wc.alloc (.cells #[.int .u8 10] 5)).drew wc.heap.size (((Below.refl b wc).alloc (by omega) _).drew) (by simp))
    have hsp := lf_split L s k hs
    have hle2 := lf_le L k
    obtain ⟨n, hn⟩ : ∃ n : Nat, n = ((L.drop s).take (k - s)).count 10 := ⟨_, rfl⟩
    rw [← hn] at HC hsp
    clear hn hcall
    have HS := hid hsp
    have hnl : lf L s + n ≤ L.length := by omega
    clear hsp
    go_upto_region 3 with fail
    go_cut [] from 17 (fun wr => Lc wr b A s (1 + (lf L k : Int)) ∧ Below b wc wr)
    case first =>
      go_region_with (first | (go_at_call 12; refine HC.out.mono ?_; rintro e w' ⟨rfl, rfl⟩))
      all_goals
        go_wp2_with fail
        go_meet
        case rel => exact ⟨lc_behind hLc HS.out hl, below_behind hlt _ _⟩
    case rest =>
      clear h0 h1 h2 f1 f2 HC
      obtain ⟨hL2, hb2⟩ := hcut
      have h0 := hL2.c0; have h1 := hL2.c1; have h2 := hL2.c2; have f1 := hL2.f1; have f2 := hL2.f2
      go_wp2
      go_ret
      exact ⟨rfl, hL2.put1 k, (hbw.trans hb2).trans ((Below.refl b _).setCell (p := ⟨b, 1, none⟩) (Nat.le_refl _) _)⟩
end Go.Proofs.Qxb6609222a
