/-
  'Rows.FnShapeLayersCountsHyphensSaid', and the tied card.
-/
import Derived.Test.Qxb6604679aDoorLaw
import Derived.Test.Qxb6604679aDoorTie
import Derived.Test.Qxb6604679aDoorCards
import Derived.LaidMore
import Derived.Lay
import Derived.Lib.LaidTab
import Derived.SevenTiedAt
import Derived.Stop.Joined
import Derived.Stop.LaidErr
namespace Go.Proofs.Qxb6604679aDoor
open Go.ChangeShapes Go.WideShapes Go.ChangeAt Go.RowKit

theorem own : ownKnob Tryd.prog.godebug = none := by kernel_rfl
theorem laidOut : laidOutB Tryd.prog = true := by kernel_rfl
theorem Tryd.cells3 : Tryd.prog.cellsOf 3 = 1 := by kernel_rfl

/-- What the row lists. -/
def laid3 : List (String × DataW Unit) := Rows.fnShapeLayersCountsHyphensRow.laid

/-- WHAT THE LIST GIVES THE WALK: the table of powers of ten. -/
theorem tab_of_laid {W : World} (h : laidMetH Tryd.prog laid3 W) : Tab W := by
  rw [MakeChecks.laidMetH_plain _ _ _ (by kernel_rfl)] at h
  have h2 : laidMet Tryd.prog ((powNm, Lib.tabData .u64 Lib.pow10Tab) :: []) W := laidMet.tail (laidMet.tail h)
  exact Lib.tabIs_of_head (g := 0) (t := 53) (e := 44) (n := 20) Tryd.powName (by kernel_rfl) Tryd.underlying53 Tryd.underlying44 (by kernel_rfl) (by kernel_rfl) h2

theorem law3_any (a : Option Addr) (len cap : Nat) (z : Nat → Int) (w : World) (h : IRow w a len cap z) (hz : ∀ i, i < len → -9223372036854775808 ≤ z i ∧ z i ≤ 9223372036854775807) (ht : Tab w) :
    Calls Tryd.prog 3 #[.slice a len cap] w fun e w' => e = .returned (.bool true) ∧ Below w.heap.size w w' := by
  by_cases hl : len ≤ 32768
  · exact law3_short a len cap z w h hl hz ht
  · exact law3_long a len cap w (by omega) (Nat.le_trans h.1 h.2.1)

/-- A slice of ints that can be read is what the walks ask of it. -/
theorem irow_of_trod {H : Type} {enc : TypeId × Value → H} {w : World} {base : Nat} {spare : Nat → Bool} {held : Bool} {fuel : Nat} {a : Option Addr} {len cap : Nat} {x : DataW H × List MemPlace}
    (h : DataW.trod enc Tryd.prog w base spare held fuel 22 [.slice a len cap] = some x) : ∃ z, IRow w a len cap z ∧ ∀ i, i < len → -9223372036854775808 ≤ z i ∧ z i ≤ 9223372036854775807 := by
  rcases open_ints Tryd.underlying22 Tryd.underlying3 Tryd.cells3 h with ⟨hcs, _⟩ | ⟨x, l, c, zs, hcs, _, hl, hm, hz, _, hcell, hwz⟩
  · simp at hcs
    obtain ⟨rfl, rfl, rfl⟩ := hcs
    exact ⟨fun _ => 0, ⟨Nat.le_refl _, Nat.zero_le _, fun _ => ⟨rfl, rfl⟩, fun i hi => absurd hi (Nat.not_lt_zero _)⟩, fun i hi => absurd hi (Nat.not_lt_zero _)⟩
  · simp at hcs
    obtain ⟨rfl, rfl, rfl⟩ := hcs
    have hle : len ≤ zs.length := by rw [hz]; split <;> omega
    refine ⟨fun i => zs.getD i 0, ⟨hl, hm, (fun e => by cases e), fun i hi => ?_⟩, fun i hi => ?_⟩
    · have hc := hcell i (by omega)
      obtain ⟨b, off, spot⟩ := x
      have hspot : spot = none := by simpa [Addr.add] using World.cell?_spot (hcell 0 (by omega))
      subst hspot
      exact ⟨b, off, rfl, by rw [← add_plain]; exact hc⟩
    · have hw := hwz (zs.getD i 0) (by rw [List.getD, List.getElem?_eq_getElem (by omega)]; exact List.getElem_mem _)
      have e1 : IntKind.i64.min = -9223372036854775808 := by decide
      have e2 : IntKind.i64.max = 9223372036854775807 := by decide
      have h2 : IntKind.i64.min ≤ zs.getD i 0 ∧ zs.getD i 0 ≤ IntKind.i64.max := by simpa [Lit.wf] using hw
      rw [e1, e2] at h2
      exact h2

set_option maxRecDepth 100000 in
theorem law3_lifted (os : Os) (started : os.Started) (H : Type) (enc : TypeId × Value → H) :
    ReturnsInHanded {} Tryd.checked os 3 .any (fun w args => (Rows.fnShapeLayersCountsHyphensSpec.pre enc Tryd.prog Tryd.f3 Rows.fnShapeLayersCountsHyphensRow.domain false w args ∧ laidMetH Tryd.prog laid3 w) ∧ sizedMet enc Tryd.prog Tryd.f3 (OpenSpec.ofChange Rows.fnShapeLayersCountsHyphensSpec) false w args)
      (Rows.fnShapeLayersCountsHyphensSpec.post enc Tryd.prog Tryd.f3 false true false false) := by
  refine returnsInHanded_of_change_and (C := Tryd.checked) (X := fun w _ => laidMetH Tryd.prog laid3 w) (fun _ _ _ hh h => h.of_heap hh) own started (by kernel_rfl) Tryd.func3
    (ChangeSpec.witness_shaped (enc := enc) (C := Tryd.checked) (os := os) (X := fun w _ => laidMetH Tryd.prog laid3 w) false (World.laidAll Tryd.prog os laid3) #[.slice none 0 0] 8 (World.laidAll_os _ _ _)
      (World.shaped_of_ZipB (by kernel_rfl) (by kernel_rfl)) (by kernel_rfl) (by kernel_rfl) (by kernel_rfl)
      (by rw [MakeChecks.laidMetH_plain _ _ _ (by kernel_rfl)]; exact laidMet_laidAll _ (by kernel_rfl) (by kernel_rfl))) ?_
  intro W base args ds gs before hval0 hW hcnd _ hL _
  have hval : ∀ (j : Nat) t v, Tryd.f3.params[j]? = some t → args[j]? = some v → Value.okWide Tryd.prog W .any base t v := hval0
  have hW' := hW
  obtain ⟨p, q, hA0, hV, rfl, hfz, hnd⟩ := hW
  have hA : DataW.TrodAll enc Tryd.prog W 0 (fun _ => true) true Tryd.f3.params.toList args.toList ds p := hA0
  rw [Tryd.params3] at hA hval
  obtain ⟨v0, d0, rfl, rfl, h0⟩ := trodAll_one hA
  obtain ⟨rfl, rfl⟩ := trodVars_none hV
  obtain ⟨a0, len0, cap0, rfl⟩ := okWide_slice Tryd.underlying22 (hval 0 22 v0 rfl rfl)
  have k0 := h0
  have lt0 : ∀ x ∈ p, x.block < W.heap.size := by obtain ⟨m, hm⟩ := k0; exact DataW.trod_lt m _ _ _ hm
  obtain ⟨z, hr, hz⟩ : ∃ z, IRow W a0 len0 cap0 z ∧ ∀ i, i < len0 → -9223372036854775808 ≤ z i ∧ z i ≤ 9223372036854775807 := by
    obtain ⟨fuel, hf⟩ := h0
    exact irow_of_trod (by simpa [Value.cells] using hf)
  have hT := tab_of_laid hL
  clear hA0 hval0
  refine (law3_any a0 len0 cap0 z W hr hz hT).mono fun e W' ⟨he, bel⟩ => ?_
  subst he
  exact ⟨_, rfl, _, _, _, [], _, [], hW', trodAll_mk1 (shut_bool Tryd.underlying4 _), trodAll_mk1 (Below.trod laidOut (by kernel_rfl) (of_decide_eq_true (by kernel_rfl)) k0 bel lt0), rfl, bel.frame _, fun h => by cases h⟩

/-- THE ROW. -/
theorem counts_hyphens_row : Rows.FnShapeLayersCountsHyphensSaid :=
  OpenClaim.holds_of_wide 3 Tryd.f3 rfl rfl rfl rfl rfl rfl rfl ⟨rfl, rfl, rfl, rfl, rfl⟩ rfl rfl rfl rfl rfl (by kernel_rfl) Tryd.func3 (by kernel_rfl)
    (of_decide_eq_true (by kernel_rfl)) (by unfold Func.isWrapper; first | (rw [if_pos (by decide +kernel)]; kernel_rfl) | (rw [if_neg (by decide +kernel)]; exact ⟨rfl, rfl⟩))
    (fun os started H enc _ => law3_lifted os started H enc)

/-- THE STATEMENT: the tied card. -/
theorem counts_hyphens_card : Rows.FnShapeLayersCountsHyphensCardSaid :=
  Claim7.holds_tied_plain_at .later [] [.data, .data, .data] true (true, "3c3f334d35deeed13efd5cfed7cb36c6a7067c9a5028c24d282991f99a694b35") false
    counts_hyphens_row (fun _ h => by cases h) (by kernel_rfl) (fun _ h => by cases h) fnShapeLayersCountsHyphens_row_tie rfl ⟨rfl, rfl⟩ (by kernel_rfl) rfl
    (fun f fn hf hfn => by
      obtain rfl : f = 3 := Option.some.inj ((show Tryd.prog.funcNamed Rows.fnShapeLayersCountsHyphensRow.func = some 3 by kernel_rfl).symm.trans hf) |>.symm
      obtain rfl : fn = Tryd.f3 := (Option.some.inj (Tryd.func3.symm.trans hfn)).symm
      exact ⟨by kernel_rfl, fun j t ht => by
        rw [Tryd.params3] at ht
        have hm : t ∈ [22] := by simpa using Array.mem_of_getElem? ht
        have hall : ([22].all fun u => !Tryd.prog.wantsStandIn u) = true := by kernel_rfl
        exact (show Tryd.prog.wantsStandIn t = false by simpa using List.all_eq_true.1 hall t hm)⟩)
    (by kernel_rfl)
end Go.Proofs.Qxb6604679aDoor
