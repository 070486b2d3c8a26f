/-
  THE WALKS of the model by recursive descent: mStringJB1, mGroupJB1, mNestedJB1.
-/
import Derived.Test.Qxb6606444aClone
set_option linter.unusedVariables false
namespace Go.Proofs.Qxb6606444a
open Go.RowKit Plain

theorem b92 (c : UInt8) : (c == 92) = ((c.toNat : Int) == 92) := eqb c 92 (by omega)
theorem sIs_over {L : List UInt8} {k j : Nat} (h : sIs L k j) (hj : ¬ j < L.length) : strL (L.drop (k + 1)) = none := by
  unfold sIs at h
  rw [h, List.drop_of_length_le (by omega)]; rfl
theorem sIs_take {L : List UInt8} {k j : Nat} (h : sIs L k j) (hj : j < L.length) (c : ((L[j].toNat : Int) == 92) = true) : sIs L k (j + 2) := by
  unfold sIs at *
  have e : L[j] = 92 := by rw [← b92] at c; simpa using c
  rw [h, drop_get L j hj, e]
  by_cases h2 : j + 1 < L.length
  · rw [drop_get L (j + 1) h2, strL_take]
  · rw [List.drop_of_length_le (by omega : L.length ≤ j + 1), List.drop_of_length_le (by omega : L.length ≤ j + 2), strL_last]; rfl
theorem sIs_end {L : List UInt8} {k j : Nat} (h : sIs L k j) (hj : j < L.length) (c : ((L[j].toNat : Int) == 34) = true) : strL (L.drop (k + 1)) = some (L.drop (j + 1)) := by
  unfold sIs at *
  rw [h, drop_get L j hj, of34 c, strL_quote]
theorem sIs_byte {L : List UInt8} {k j : Nat} (h : sIs L k j) (hj : j < L.length) (c1 : ((L[j].toNat : Int) == 92) = false) (c2 : ((L[j].toNat : Int) == 34) = false) : sIs L k (j + 1) := by
  unfold sIs at *
  rw [h, drop_get L j hj, strL_byte _ _ (by rw [b92]; exact c1) (by rw [b34]; exact c2)]

set_option maxHeartbeats 1000000 in
theorem mString_any (g o cap : Nat) (L : List UInt8) (k : Nat) (w : World) (ht : Txt w g o L) (hk : k < L.length) (hl : L.length ≤ 2 ^ 40) :
    Calls Try.prog 19 #[.slice (some ⟨g, o, none⟩) L.length cap, .int .i64 k] w fun e w' => ((strL (L.drop (k + 1)) = none ∧ e = .returned (.tuple #[.int .i64 L.length, .bool false])) ∨
      (∃ z : Nat, k + 1 < z ∧ z ≤ L.length ∧ strL (L.drop (k + 1)) = some (L.drop z) ∧ e = .returned (.tuple #[.int .i64 z, .bool true]))) ∧ w' = w := by
  go_enter Try.func19, Try.ntmps19
  go_wp2
  go_loop [6] (fun t => ∃ j : Nat, k < j ∧ j ≤ L.length + 1 ∧ t = .int .i64 j ∧ sIs L k j) (fun t => L.length + 1 - (intOf t).toNat)
  case atStart => exact ⟨k + 1, by omega, by omega, by go_num, rfl⟩
  case round =>
    obtain ⟨j, hj1, hj2, rfl, hS⟩ := hrel
    by_cases hlt : j < L.length
    · have hx := ht j hlt
      by_cases c92 : ((L[j].toNat : Int) == 92) = true
      · have hS2 := sIs_take hS hlt c92
        clear hS
        go_wp2
        go_round
        case rel => exact ⟨j + 2, by omega, by omega, by go_num, hS2⟩
        case measure => simp [intOf]; omega
      · have n92 : ((L[j].toNat : Int) == 92) = false := by simpa using c92
        clear c92
        by_cases c34 : ((L[j].toNat : Int) == 34) = true
        · have HE := hid (sIs_end hS hlt c34)
          clear hS
          go_wp2
          go_ret2
          exact ⟨.inr ⟨j + 1, by omega, by omega, HE.out, rfl⟩, rfl⟩
        · have n34 : ((L[j].toNat : Int) == 34) = false := by simpa using c34
          have hS2 := sIs_byte hS hlt n92 n34
          clear hS c34
          go_wp2
          go_round
          case rel => exact ⟨j + 1, by omega, by omega, by go_num, hS2⟩
          case measure => simp [intOf]; omega
    · have HE := hid (sIs_over hS hlt)
      clear hS
      go_wp2
      go_ret2
      exact ⟨.inl ⟨HE.out, rfl⟩, rfl⟩

/-- What mGroup hands back at an opener at place i. -/
def gE (L : List UInt8) (i : Nat) (f : Bool) : Int := match grp (L.drop (i + 1)) 1 false f with
  | none => L.length
  | some (r, _) => (L.length : Int) - r.length
def gO (L : List UInt8) (i : Nat) (f : Bool) : Bool := match grp (L.drop (i + 1)) 1 false f with
  | none => false
  | some _ => true
def gS (L : List UInt8) (i : Nat) (f : Bool) : Bool := match grp (L.drop (i + 1)) 1 false f with
  | none => false
  | some (_, s) => s

theorem g_none {L : List UInt8} {i : Nat} {f : Bool} {R} (hR : gIs L (i + 1) 1 f R) (h : R = none) : gE L i f = L.length ∧ gO L i f = false ∧ gS L i f = false := by
  unfold gIs at hR
  unfold gE gO gS
  rw [hR, h]; exact ⟨rfl, rfl, rfl⟩
theorem g_some {L : List UInt8} {i z : Nat} {f s : Bool} {R} (hR : gIs L (i + 1) 1 f R) (hz : z ≤ L.length) (h : R = some (L.drop z, s)) : gE L i f = z ∧ gO L i f = true ∧ gS L i f = s := by
  unfold gIs at hR
  unfold gE gO gS
  rw [hR, h]
  refine ⟨?_, rfl, rfl⟩
  simp only [List.length_drop]
  omega

/-- The three ways of an inner group. -/
theorem g_inner {L : List UInt8} {j : Nat} {f : Bool} {R} (h : gIs L j 1 f R) (hj : j < L.length) (c0 : ((L[j].toNat : Int) == 34) = false) (c1 : jOpen L[j] = true) :
    (gE L j f = L.length ∧ gO L j f = false ∧ gS L j f = false ∧ R = none) ∨
    (∃ z : Nat, j + 1 < z ∧ z ≤ L.length ∧ gE L j f = z ∧ gO L j f = true ∧ gS L j f = true ∧ R = some (L.drop z, true)) ∨
    (∃ z : Nat, j + 1 < z ∧ z ≤ L.length ∧ gE L j f = z ∧ gO L j f = true ∧ gS L j f = false ∧ gIs L z 1 f R) := by
  have h2 := gIs_open h hj c0 c1
  unfold gIs at h2
  have hd := grp_deep (L.drop (j + 1)) 1 1 false f (by omega) (by omega)
  rw [h2] at hd
  unfold gE gO gS
  cases hg : grp (L.drop (j + 1)) 1 false f with
  | none =>
    rw [hg] at hd
    exact .inl ⟨rfl, rfl, rfl, hd⟩
  | some p =>
    obtain ⟨r, s⟩ := p
    rw [hg] at hd
    obtain ⟨u, hu, hu2⟩ := grp_suffix _ _ _ _ _ _ hg
    have hlen := congrArg List.length hu
    simp only [List.length_drop, List.length_append] at hlen
    have hul : 1 ≤ u.length := by
      cases u with
      | nil => exact absurd rfl hu2
      | cons a u => simp
    have hr : r = L.drop (L.length - r.length) := by
      have h3 : (L.drop (j + 1)).drop u.length = r := by rw [hu]; simp
      rw [List.drop_drop] at h3
      have h4 : L.length - r.length = j + 1 + u.length := by omega
      rw [h4]
      exact h3.symm
    cases s with
    | true => exact .inr (.inl ⟨L.length - r.length, by omega, by omega, by simp only; omega, rfl, rfl, by rw [← hr]; exact hd⟩)
    | false => exact .inr (.inr ⟨L.length - r.length, by omega, by omega, by simp only; omega, rfl, rfl, by unfold gIs; rw [← hr]; exact hd.symm⟩)

theorem ret3 {a a' : Int} {b b' c c' : Bool} (h : a' = a ∧ b' = b ∧ c' = c) : Ending.returned (.tuple #[.int .i64 a, .bool b, .bool c]) = .returned (.tuple #[.int .i64 a', .bool b', .bool c']) := by
  obtain ⟨rfl, rfl, rfl⟩ := h; rfl

set_option maxHeartbeats 2000000 in
theorem mGroup_any (g o cap : Nat) (L : List UInt8) (f : Bool) (w : World) (ht : Txt w g o L) (hl : L.length ≤ 2 ^ 40) :
    ∀ (m i : Nat), L.length - i ≤ m → i < L.length →
    Calls Try.prog 16 #[.slice (some ⟨g, o, none⟩) L.length cap, .int .i64 i, .bool f] w fun e w' => e = .returned (.tuple #[.int .i64 (gE L i f), .bool (gO L i f), .bool (gS L i f)]) ∧ w' = w := by
  intro m
  induction m with
  | zero => intro i h1 h2; omega
  | succ m ih =>
    intro i h1 h2
    have IH := hid ih
    clear ih
    obtain ⟨R, hR⟩ : ∃ R, gIs L (i + 1) 1 f R := ⟨_, rfl⟩
    go_enter Try.func16, Try.ntmps16
    go_wp2
    go_loop [9] (fun t => ∃ j : Nat, i < j ∧ j ≤ L.length ∧ t = .int .i64 j ∧ gIs L j 1 f R) (fun t => L.length - (intOf t).toNat)
    case atStart => exact ⟨i + 1, by omega, by omega, by go_num, hR⟩
    case round =>
      obtain ⟨j, hj1, hj2, rfl, hG⟩ := hrel
      by_cases hlt : j < L.length
      · have hx := ht j hlt
        by_cases c34 : ((L[j].toNat : Int) == 34) = true
        · have HQ := hid (gIs_quote hG hlt (of34 c34))
          clear hG
          go_wp2_with fail
          refine (mString_any g o cap L j _ ht hlt hl).mono ?_
          rintro e w' ⟨hcase, hw⟩
          rw [hw]
          clear hw w'
          rcases hcase with ⟨hn, rfl⟩ | ⟨z, hz1, hz2, hzs, rfl⟩
          · have HF := hid (g_none hR (by rw [HQ.out, hn]))
            clear hn
            go_wp2_with fail
            go_ret3
            exact ⟨ret3 HF.out, rfl⟩
          · have hQ := HQ.out
            rw [hzs] at hQ
            clear hzs HQ
            cases f with
            | true =>
              have HF := hid (g_some (s := true) hR hz2 (by rw [hQ]; rfl))
              clear hQ
              go_wp2_with fail
              go_ret3
              exact ⟨ret3 HF.out, rfl⟩
            | false =>
              have hG2 : gIs L z 1 false R := by unfold gIs; rw [hQ]; rfl
              clear hQ
              go_wp2_with fail
              go_round
              case rel => exact ⟨z, by omega, hz2, by go_num, hG2⟩
              case measure => simp [intOf]; omega
        · have n34 : ((L[j].toNat : Int) == 34) = false := by simpa using c34
          clear c34
          by_cases ho : jOpen L[j] = true
          · have hI := g_inner hG hlt n34 ho
            clear hG
            go_wp2_with (go_at_call 7; refine (isOpen_any _ _).mono ?_; rintro e w' ⟨rfl, hw⟩; rw [hw]; clear hw w')
            refine (IH.out j (by omega) hlt).mono ?_
            rintro e w' ⟨rfl, hw⟩
            rw [hw]
            clear hw w'
            rcases hI with ⟨e1, e2, e3, hN⟩ | ⟨z, hz1, hz2, e1, e2, e3, hN⟩ | ⟨z, hz1, hz2, e1, e2, e3, hG2⟩
            · have HF := hid (g_none hR hN)
              clear hN
              rw [e1, e2, e3]
              clear e1 e2 e3
              go_wp2_with fail
              go_ret3
              exact ⟨ret3 HF.out, rfl⟩
            · have HF := hid (g_some hR hz2 hN)
              clear hN
              rw [e1, e2, e3]
              clear e1 e2 e3
              go_wp2_with fail
              go_ret3
              exact ⟨ret3 HF.out, rfl⟩
            · rw [e1, e2, e3]
              clear e1 e2 e3
              go_wp2_with fail
              go_round
              case rel => exact ⟨z, by omega, hz2, by go_num, hG2⟩
              case measure => simp [intOf]; omega
          · have no : jOpen L[j] = false := by simpa using ho
            clear ho
            by_cases hcl : jClose L[j] = true
            · have HF := hid (g_some (s := false) (z := j + 1) hR (by omega) (gIs_close1 (d := 0) hG hlt n34 no hcl rfl))
              clear hG
              go_wp2_with (first | (go_at_call 7; refine (isOpen_any _ _).mono ?_; rintro e w' ⟨rfl, hw⟩; rw [hw]; clear hw w') | (go_at_call 12; refine (isClose_any _ _).mono ?_; rintro e w' ⟨rfl, hw⟩; rw [hw]; clear hw w'))
              go_ret3
              exact ⟨ret3 (by have hf := HF.out; rw [Int.natCast_add] at hf; exact hf), rfl⟩
            · have ncl : jClose L[j] = false := by simpa using hcl
              have hG2 := gIs_byte hG hlt n34 no ncl
              clear hG hcl
              go_wp2_with (first | (go_at_call 7; refine (isOpen_any _ _).mono ?_; rintro e w' ⟨rfl, hw⟩; rw [hw]; clear hw w') | (go_at_call 12; refine (isClose_any _ _).mono ?_; rintro e w' ⟨rfl, hw⟩; rw [hw]; clear hw w'))
              go_round
              case rel => exact ⟨j + 1, by omega, by omega, by go_num, hG2⟩
              case measure => simp [intOf]; omega
      · have HF := hid (g_none hR (gIs_over hG hlt))
        clear hG
        go_wp2_with fail
        go_ret3
        exact ⟨ret3 HF.out, rfl⟩

/-- mNested against nested's own answer. -/
theorem n_of_g (L : List UInt8) (k : Nat) (f : Bool) (hk : k < L.length) (ho : jOpen L[k] = true) : nEnd L k f = gE L k f ∧ nBad L k f = (if gO L k f then f else true) ∧ (gO L k f = false → gE L k f = L.length) := by
  have h34 : ((L[k].toNat : Int) == 34) = false := by
    rw [← b34]
    cases hh : (L[k] == 34)
    · rfl
    · have e : L[k] = 34 := by simpa using hh
      rw [e] at ho; exact absurd ho (by decide)
  have h : grp (L.drop k) 0 false f = grp (L.drop (k + 1)) 1 false f := by
    rw [drop_get L k hk, grp_open _ _ _ _ (by rw [b34]; exact h34) ho]
  unfold nEnd nBad gE gO
  rw [h]
  cases grp (L.drop (k + 1)) 1 false f with
  | none => exact ⟨rfl, rfl, fun _ => rfl⟩
  | some p => exact ⟨rfl, rfl, fun h => by cases h⟩

theorem ret2 {a a' : Int} {b b' : Bool} (h : a' = a ∧ b' = b) : Ending.returned (.tuple #[.int .i64 a, .bool b]) = .returned (.tuple #[.int .i64 a', .bool b']) := by
  obtain ⟨rfl, rfl⟩ := h; rfl

set_option maxHeartbeats 1000000 in
theorem mNested_any (g o cap : Nat) (L : List UInt8) (k : Nat) (f : Bool) (w : World) (ht : Txt w g o L) (hk : k < L.length) (ho : jOpen L[k] = true) (hl : L.length ≤ 2 ^ 40) :
    Calls Try.prog 10 #[.slice (some ⟨g, o, none⟩) L.length cap, .int .i64 k, .bool f] w fun e w' => e = .returned (.tuple #[.int .i64 (nEnd L k f), .bool (nBad L k f)]) ∧ w' = w := by
  obtain ⟨h1, h2, h3⟩ := n_of_g L k f hk ho
  by_cases hgo : gO L k f = true
  · rw [if_pos hgo] at h2
    have HF := hid (And.intro h1 h2)
    clear h1 h2 h3
    go_enter Try.func10, Try.ntmps10
    go_wp2_with fail
    refine (mGroup_any g o cap L f _ ht hl L.length k (by omega) hk).mono ?_
    rintro e w' ⟨rfl, hw⟩
    rw [hw]
    clear hw w'
    go_wp2_with fail
    go_ret2
    exact ⟨ret2 HF.out, rfl⟩
  · rw [if_neg hgo] at h2
    have hgo' : gO L k f = false := by simpa using hgo
    have h4 := h3 hgo'
    rw [h4] at h1
    have HF := hid (And.intro h1 h2)
    clear h1 h2 h3 h4 hgo
    go_enter Try.func10, Try.ntmps10
    go_wp2_with fail
    refine (mGroup_any g o cap L f _ ht hl L.length k (by omega) hk).mono ?_
    rintro e w' ⟨rfl, hw⟩
    rw [hw]
    clear hw w'
    go_wp2_with fail
    go_ret2
    exact ⟨ret2 HF.out, rfl⟩

set_option maxHeartbeats 1000000 in
theorem mNested_over (a : Option Addr) (n cap : Nat) (m : Int) (f : Bool) (w : World) (hk : ¬ m < n) :
    Calls Try.prog 10 #[.slice a n cap, .int .i64 m, .bool f] w fun e w' => e = .returned (.tuple #[.int .i64 n, .bool true]) ∧ w' = w := by
  go_enter Try.func10, Try.ntmps10
  go_wp2
  go_ret2
  exact ⟨rfl, rfl⟩
end Go.Proofs.Qxb6606444a
