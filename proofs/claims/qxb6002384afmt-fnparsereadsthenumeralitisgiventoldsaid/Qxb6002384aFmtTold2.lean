/-
  THE TOLD ROW of FnParseReadsTheNumeralItIsGiven, lifted.
-/
import Derived.Test.Qxb6002384aFmtTold
set_option linter.unusedVariables false
namespace Go.Proofs.Qxb6002384aFmt
open Go.ChangeShapes Go.WideShapes Go.ChangeAt Go.RowKit
open Go.Extern.Stop Go.Stop Go.Extern

theorem var_heap {P : Program} {W : World} {n : String} {g : Nat} {v : Value} (hg : P.globalNamed n = some g) (h : W.var? P n = some #[v]) : ∃ t f, W.heap[g]? = some (.cells #[v] t f) := by
  unfold World.var? at h
  rw [hg] at h
  simp only [Option.bind_some] at h
  cases hh : W.heap[g]? with
  | none => rw [hh] at h; cases h
  | some o =>
    rw [hh] at h
    cases o <;> simp_all
theorem var_cell {P : Program} {W : World} {n : String} {g : Nat} {v : Value} (hg : P.globalNamed n = some g) (h : W.var? P n = some #[v]) : W.cell? ⟨g, 0, none⟩ = some v := by
  obtain ⟨t, f, hh⟩ := var_heap hg h
  rw [Lib.cell_of_heap hh]
  rfl
theorem var_lt {P : Program} {W : World} {n : String} {g : Nat} {v : Value} (hg : P.globalNamed n = some g) (h : W.var? P n = some #[v]) : g < W.heap.size := by
  obtain ⟨t, f, hh⟩ := var_heap hg h
  exact (Array.getElem?_eq_some_iff.1 hh).1

set_option maxRecDepth 100000 in
set_option maxHeartbeats 4000000 in
theorem law_lifted (os : Os) (started : os.Started) (H : Type) (enc : TypeId × Value → H) :
    ReturnsInTold none {} Tryf.checked os 4 .any Input.okWide (lawSpec.preRow enc Tryf.prog Tryf.f4 Rows.fnParseReadsTheNumeralItIsGivenRow.domain false Rows.fnParseReadsTheNumeralItIsGivenRow.laid) (fun F => (lawSpec.at F).post enc Tryf.prog Tryf.f4 false true false false) (aloneAtReturn Tryf.prog) nothingAlways := by
  refine returnsInTold_of_row (C := Tryf.checked) (s := lawSpec) (by kernel_rfl) own started (by kernel_rfl) Tryf.func4
    (OpenSpec.witness_stopped_atRef (enc := enc) (C := Tryf.checked) false (laidWorldOf Tryf.prog os) lawArgs rfl (by kernel_rfl) (by kernel_rfl) (by kernel_rfl) (witness_row os enc)) ?_
  intro F W base args ds gs before _ hF hval0 hW hcnd0 _ _ hL _
  clear hcnd0
  have hval : ∀ (j : Nat) t v, Tryf.f4.params[j]? = some t → args[j]? = some v → Value.okWide Tryf.prog W .any base t v := hval0
  have hW' := hW
  obtain ⟨p, q, hA0, hV0, rfl, _, _⟩ := hW
  have hA : DataW.TrodAll enc Tryf.prog W 0 (fun _ => true) true Tryf.f4.params.toList args.toList ds p := hA0
  rw [Tryf.params4] at hA hval
  obtain ⟨v0, vs0, d0, ds0, p0, q0, hv0, rfl, rfl, h0, hA1⟩ := trodAll_cons hA
  obtain ⟨v1, vs1, d1, ds1, p1, q1, rfl, rfl, rfl, h1, hA2⟩ := trodAll_cons hA1
  obtain ⟨v2, vs2, d2, ds2, p2, q2, rfl, rfl, rfl, h2, hA3⟩ := trodAll_cons hA2
  obtain ⟨v3, vs3, d3, ds3, p3, q3, rfl, rfl, rfl, h3, hA4⟩ := trodAll_cons hA3
  obtain ⟨v4, vs4, d4, ds4, p4, q4, rfl, rfl, rfl, h4, hA5⟩ := trodAll_cons hA4
  obtain ⟨v5, vs5, d5, ds5, p5, q5, rfl, rfl, rfl, h5, hA6⟩ := trodAll_cons hA5
  obtain ⟨rfl, rfl, rfl⟩ := trodAll_nil hA6
  obtain rfl : args = #[v0, v1, v2, v3, v4, v5] := by cases args; simp_all
  obtain ⟨b0, rfl, rfl, rfl⟩ := open_bool Tryf.underlying4 (hval 0 4 v0 rfl rfl) h0
  obtain ⟨n1, rfl, rfl, rfl, w1⟩ := open_int Tryf.underlying5 (hval 1 5 v1 rfl rfl) h1
  obtain ⟨n2, rfl, rfl, rfl, w2⟩ := open_int Tryf.underlying30 (hval 2 30 v2 rfl rfl) h2
  obtain ⟨b3, rfl, rfl, rfl⟩ := open_bool Tryf.underlying4 (hval 3 4 v3 rfl rfl) h3
  obtain ⟨n4, rfl, rfl, rfl, w4⟩ := open_int Tryf.underlying5 (hval 4 5 v4 rfl rfl) h4
  obtain ⟨n5, rfl, rfl, rfl, w5⟩ := open_int Tryf.underlying31 (hval 5 31 v5 rfl rfl) h5
  have hL' : laidMet Tryf.prog Rows.fnParseReadsTheNumeralItIsGivenRow.laid W := hL
  obtain ⟨a1, t1, hv1, _, _, _⟩ := laid_sentinel (g := 1) hL' (by kernel_rfl) (by kernel_rfl) Tryf.underlying27 row62 Tryf.underlying62 Tryf.underlying64 rfl rfl Tryf.underlying9 (by kernel_rfl) (by kernel_rfl)
  obtain ⟨a4, t4, hv4, _, _, _⟩ := laid_sentinel (g := 4) hL'.tail (by kernel_rfl) (by kernel_rfl) Tryf.underlying27 row62 Tryf.underlying62 Tryf.underlying64 rfl rfl Tryf.underlying9 (by kernel_rfl) (by kernel_rfl)
  have hE : Eof W (eofAt a1) := var_cell (g := 1) (by kernel_rfl) hv1
  have h4s : 4 < W.heap.size := var_lt (g := 4) (by kernel_rfl) hv4
  clear hL hL' hval hval0
  have hx1 : 0 ≤ n1 := by simp [Lit.wf, IntKind.min, IntKind.max, IntKind.signed] at w1; omega
  have hx4 : 0 ≤ n4 := by simp [Lit.wf, IntKind.min, IntKind.max, IntKind.signed] at w4; omega
  have hx2 : 0 ≤ n2 ∧ n2 < 4294967296 := by simp [Lit.wf, IntKind.min, IntKind.max, IntKind.signed, IntKind.bits] at w2; omega
  have hx5 : 0 ≤ n5 ∧ n5 < 65536 := by simp [Lit.wf, IntKind.min, IntKind.max, IntKind.signed, IntKind.bits] at w5; omega
  have hlaw := law_all b0 b3 n1.toNat n2.toNat n4.toNat n5.toNat a1 W (by omega) (by omega) hE (by omega)
  rw [Int.toNat_of_nonneg hx1, Int.toNat_of_nonneg hx2.1, Int.toNat_of_nonneg hx4, Int.toNat_of_nonneg hx5.1] at hlaw
  obtain ⟨g, hg1⟩ : ∃ g, gs = [g] := by
    match gs, hV0 with
    | [g], _ => exact ⟨g, rfl⟩
    | g :: g' :: r, h => obtain ⟨_, _, _, _, _, _, _, _, _, _, h2, _⟩ := h; exact absurd h2 (fun h => h.elim)
  subst hg1
  have e1 : (lawSpec.at F.told).fn H ([.lit (.bool b0), .lit (.int .u8 n1), .lit (.int .u32 n2), .lit (.bool b3), .lit (.int .u8 n4), .lit (.int .u16 n5)] ++ [g]) = { results := [.lit (.bool true)], args := [.lit (.bool b0), .lit (.int .u8 n1), .lit (.int .u32 n2), .lit (.bool b3), .lit (.int .u8 n4), .lit (.int .u16 n5)], vars := [g] } := rfl
  refine hlaw.mono ?_
  rintro e W' ⟨rfl, bel⟩
  refine ⟨_, rfl, _, _, _, [], [], q, hW', ?_, ?_, ?_, bel.frame _, fun h => by cases h⟩
  · rw [e1]; exact trodAll_mk1 (shut_bool Tryf.underlying4 true)
  · rw [e1]; exact trodAll_cons_mk (shut_bool Tryf.underlying4 b0) (trodAll_cons_mk (shut_int Tryf.underlying5 w1) (trodAll_cons_mk (shut_int Tryf.underlying30 w2) (trodAll_cons_mk (shut_bool Tryf.underlying4 b3) (trodAll_cons_mk (shut_int Tryf.underlying5 w4) (trodAll_mk1 (shut_int Tryf.underlying31 w5))))))
  · rw [e1]; exact Below.trodVars (by kernel_rfl) bel (by kernel_rfl) hV0
end Go.Proofs.Qxb6002384aFmt
