/-
  'Rows.FnPolynomialDegreeUnderAppendedCoefficientSaid': the row's step.
-/
import Derived.Test.Qxb6604679aAppend
namespace Go.Proofs.Qxb6604679a
open Go.ChangeShapes Go.WideShapes Go.ChangeAt Go.RowKit

theorem law5_any (a : Option Addr) (len cap c : Nat) (f : Nat → Nat) (w : World) (h : FRow w a len cap f) :
    Calls Try.prog 5 #[.slice a len cap, .float .f64 c] w fun e w' => e = .returned (.bool true) ∧ Below w.heap.size w w' := by
  by_cases hl : len ≤ 131070
  · exact law5_short a len cap c f w h hl
  · exact law5_long a len cap c w (by omega) (Nat.le_trans h.1 h.2.1)

set_option maxRecDepth 100000 in
theorem law5_lifted (os : Os) (started : os.Started) (H : Type) (enc : TypeId × Value → H) :
    ReturnsInHanded {} Try.checked os 5 .any (Rows.fnPolynomialDegreeUnderAppendedCoefficientSpec.pre6 enc Try.prog Try.f5 Rows.fnPolynomialDegreeUnderAppendedCoefficientRow.domain false) (Rows.fnPolynomialDegreeUnderAppendedCoefficientSpec.post enc Try.prog Try.f5 false true false false) := by
  refine returnsInHanded_of_change (C := Try.checked) Try.own started (by kernel_rfl) Try.func5
    (ChangeSpec.witness6 (enc := enc) (C := Try.checked) false ⟨#[], #[.slice none 0 0, .float .f64 0], []⟩ 8 (by kernel_rfl) (by kernel_rfl) (by kernel_rfl) (by kernel_rfl)) ?_
  intro W base args ds gs before hval0 hW hcnd _
  have hval : ∀ (j : Nat) t v, Try.f5.params[j]? = some t → args[j]? = some v → Value.okWide Try.prog W .any base t v := hval0
  have hW' := hW
  obtain ⟨p, q, hA0, hV, rfl, hfz, hnd⟩ := hW
  have hA : DataW.TrodAll enc Try.prog W 0 (fun _ => true) true Try.f5.params.toList args.toList ds p := hA0
  rw [Try.params5] at hA hval
  obtain ⟨v0, v1, d0, d1, p0, p1, rfl, rfl, rfl, h0, h1⟩ := trodAll_two hA
  obtain ⟨rfl, rfl⟩ := trodVars_none hV
  obtain ⟨a0, len0, cap0, rfl⟩ := okWide_slice Try.underlying34 (hval 0 34 v0 rfl rfl)
  have k0 := h0
  have lt0 : ∀ x ∈ p0, x.block < W.heap.size := by obtain ⟨m, hm⟩ := k0; exact DataW.trod_lt m _ _ _ hm
  obtain ⟨f, hf⟩ : ∃ f, FRow W a0 len0 cap0 f := by
    obtain ⟨fuel, hf⟩ := h0
    exact frow_of_trod (by simpa [Value.cells] using hf)
  obtain ⟨c, rfl, rfl, rfl, w1⟩ := open_float Try.underlying37 (hval 1 37 v1 rfl rfl) h1
  clear hA0 hval0
  refine (law5_any a0 len0 cap0 c f W hf).mono fun e W' ⟨he, bel⟩ => ?_
  subst he
  exact ⟨_, rfl, _, _, _, [], _, [], hW', trodAll_mk1 (shut_bool Try.underlying4 _), trodAll_mk2 (Below.trod Try.laidOut (by kernel_rfl) (of_decide_eq_true (by kernel_rfl)) k0 bel lt0) (shut_float Try.underlying37 w1), rfl, bel.frame _, fun h => by cases h⟩

/-- THE STATEMENT. -/
theorem degree_under_appended_coefficient : Rows.FnPolynomialDegreeUnderAppendedCoefficientSaid :=
  OpenClaim.holds_of_wide 5 Try.f5 rfl rfl rfl rfl rfl rfl rfl ⟨rfl, rfl, rfl, rfl, rfl⟩ rfl rfl rfl rfl rfl (by kernel_rfl) Try.func5 (by kernel_rfl)
    (of_decide_eq_true (by kernel_rfl)) (by unfold Func.isWrapper; first | (rw [if_pos (by decide +kernel)]; kernel_rfl) | (rw [if_neg (by decide +kernel)]; exact ⟨rfl, rfl⟩))
    (fun os started H enc _ => law5_lifted os started H enc)
end Go.Proofs.Qxb6604679a
