/-
  'Rows.FnShapeLayersIsModelDepthSaid': the row's step.
-/
import Derived.Test.Qxb6604679aDepth
import Derived.Test.Qxb6604679aDegree
namespace Go.Proofs.Qxb6604679a
open Go.ChangeShapes Go.WideShapes Go.ChangeAt Go.RowKit

theorem Try.cells34 : Try.prog.cellsOf 34 = 1 := by kernel_rfl
theorem Try.cells40 : Try.prog.cellsOf 40 = 1 := by kernel_rfl

/-- A slice that can be read, of elements of one cell each that are p wherever they can be read. -/
theorem srow_of_trod {H : Type} {enc : TypeId × Value → H} {w : World} {base : Nat} {spare : Nat → Bool} {held : Bool} {fuel : Nat} {t e : TypeId} {v : Value} {x : DataW H × List MemPlace} {p : Value → Prop}
    (ht : Try.prog.underlying t = some (.slice e)) (he : Try.prog.cellsOf e = 1) (hp : ∀ (m : Nat) (u : Value) (y : DataW H × List MemPlace), DataW.trod enc Try.prog w base spare held m e [u] = some y → p u)
    (h : DataW.trod enc Try.prog w base spare held fuel t [v] = some x) : ∃ a len cap V, v = .slice a len cap ∧ SRow w a len cap V ∧ ∀ i, i < len → p (V i) := by
  rcases Deep.open_slice1 ht he h with ⟨hcs, _⟩ | ⟨a', len', cap', m, n, V, D, Pl, hcs, _, hl, hm, hmm, _, hV⟩
  · exact ⟨none, 0, 0, fun _ => .bool false, by simpa using hcs, ⟨Nat.le_refl _, Nat.zero_le _, fun _ => ⟨rfl, rfl⟩, fun i hi => absurd hi (Nat.not_lt_zero _)⟩, fun i hi => absurd hi (Nat.not_lt_zero _)⟩
  · have hle : len' ≤ m := by subst hmm; split <;> omega
    refine ⟨some a', len', cap', V, by simpa using hcs, ⟨hl, hm, (fun e => by cases e), fun i hi => ?_⟩, fun i hi => hp n (V i) _ (hV i (by omega)).2⟩
    have hc := (hV i (by omega)).1
    obtain ⟨b, off, spot⟩ := a'
    have hspot : spot = none := by simpa [Addr.add] using World.cell?_spot (hV 0 (by omega)).1
    subst hspot
    exact ⟨b, off, rfl, by rw [← add_plain]; exact hc⟩

theorem f1_of_trod {H : Type} {enc : TypeId × Value → H} {w : World} {base : Nat} {spare : Nat → Bool} {held : Bool} (m : Nat) (u : Value) (y : DataW H × List MemPlace)
    (h : DataW.trod enc Try.prog w base spare held m 34 [u] = some y) : F1 maxLen w u := by
  obtain ⟨a, n, c, V, rfl, hs, _⟩ := srow_of_trod (p := fun _ => True) Try.underlying34 Try.cells37 (fun _ _ _ _ => trivial) h
  obtain ⟨f, hf⟩ := frow_of_trod h
  exact ⟨a, n, c, f, rfl, Nat.le_trans hs.1 hs.2.1, hf⟩

theorem m2_of_trod {H : Type} {enc : TypeId × Value → H} {w : World} {base : Nat} {spare : Nat → Bool} {held : Bool} (m : Nat) (u : Value) (y : DataW H × List MemPlace)
    (h : DataW.trod enc Try.prog w base spare held m 40 [u] = some y) : M2 maxLen w u := by
  obtain ⟨a, n, c, V, rfl, hs, hp⟩ := srow_of_trod (p := F1 maxLen w) Try.underlying40 Try.cells34 f1_of_trod h
  exact ⟨a, n, c, V, rfl, Nat.le_trans hs.1 hs.2.1, hs, hp⟩

set_option maxRecDepth 100000 in
theorem law3_lifted (os : Os) (started : os.Started) (H : Type) (enc : TypeId × Value → H) :
    ReturnsInHanded {} Try.checked os 3 .any (Rows.fnShapeLayersIsModelDepthSpec.pre6 enc Try.prog Try.f3 Rows.fnShapeLayersIsModelDepthRow.domain false) (Rows.fnShapeLayersIsModelDepthSpec.post enc Try.prog Try.f3 false true false false) := by
  refine returnsInHanded_of_change (C := Try.checked) Try.own started (by kernel_rfl) Try.func3
    (ChangeSpec.witness6 (enc := enc) (C := Try.checked) false ⟨#[], #[.slice none 0 0], []⟩ 8 (by kernel_rfl) (by kernel_rfl) (by kernel_rfl) (by kernel_rfl)) ?_
  intro W base args ds gs before hval0 hW hcnd _
  have hval : ∀ (j : Nat) t v, Try.f3.params[j]? = some t → args[j]? = some v → Value.okWide Try.prog W .any base t v := hval0
  have hW' := hW
  obtain ⟨p, q, hA0, hV, rfl, hfz, hnd⟩ := hW
  have hA : DataW.TrodAll enc Try.prog W 0 (fun _ => true) true Try.f3.params.toList args.toList ds p := hA0
  rw [Try.params3] at hA hval
  obtain ⟨v0, d0, rfl, rfl, h0⟩ := trodAll_one hA
  obtain ⟨rfl, rfl⟩ := trodVars_none hV
  obtain ⟨a0, len0, cap0, rfl⟩ := okWide_slice Try.underlying22 (hval 0 22 v0 rfl rfl)
  have k0 := h0
  have lt0 : ∀ x ∈ p, x.block < W.heap.size := by obtain ⟨m, hm⟩ := k0; exact DataW.trod_lt m _ _ _ hm
  obtain ⟨V, hs, hM⟩ : ∃ V, SRow W a0 len0 cap0 V ∧ ∀ i, i < len0 → M2 maxLen W (V i) := by
    obtain ⟨fuel, hf⟩ := h0
    obtain ⟨a, n, c, V, e, hs, hp⟩ := srow_of_trod (p := M2 maxLen W) Try.underlying22 Try.cells40 m2_of_trod (by simpa [Value.cells] using hf)
    simp at e
    obtain ⟨rfl, rfl, rfl⟩ := e
    exact ⟨V, hs, hp⟩
  clear hA0 hval0
  refine (law3_any a0 len0 cap0 V W hs hM).mono fun e W' ⟨he, bel⟩ => ?_
  subst he
  exact ⟨_, rfl, _, _, _, [], _, [], hW', trodAll_mk1 (shut_bool Try.underlying4 _), trodAll_mk1 (Below.trod Try.laidOut (by kernel_rfl) (of_decide_eq_true (by kernel_rfl)) k0 bel lt0), rfl, bel.frame _, fun h => by cases h⟩

/-- THE STATEMENT. -/
theorem shape_layers_is_model_depth : Rows.FnShapeLayersIsModelDepthSaid :=
  OpenClaim.holds_of_wide 3 Try.f3 rfl rfl rfl rfl rfl rfl rfl ⟨rfl, rfl, rfl, rfl, rfl⟩ rfl rfl rfl rfl rfl (by kernel_rfl) Try.func3 (by kernel_rfl)
    (of_decide_eq_true (by kernel_rfl)) (by unfold Func.isWrapper; first | (rw [if_pos (by decide +kernel)]; kernel_rfl) | (rw [if_neg (by decide +kernel)]; exact ⟨rfl, rfl⟩))
    (fun os started H enc _ => law3_lifted os started H enc)
end Go.Proofs.Qxb6604679a
