/-
  'Rows.FnShapeLayersIsModelDepthSaid': the law's walk, and its argument opened.
-/
import Derived.Test.Qxb6604679aShape
import Derived.Deep.Slices
import Derived.ChangeOld
import Derived.Carry
namespace Go.Proofs.Qxb6604679a
open Go.ChangeShapes Go.WideShapes Go.ChangeAt Go.RowKit

set_option maxHeartbeats 1000000 in
theorem law3_any (a : Option Addr) (len cap : Nat) (V : Nat → Value) (w : World) (h : SRow w a len cap V) (h2 : ∀ i, i < len → M2 maxLen w (V i)) :
    Calls Try.prog 3 #[.slice a len cap] w fun e w' => e = .returned (.bool true) ∧ Below w.heap.size w w' := by
  have H : Hid (SRow w a len cap V) := h
  have H2 : Hid (∀ i, i < len → M2 maxLen w (V i)) := h2
  clear h h2
  go_enter Try.func3, Try.ntmps3
  go_wp2_with fail
  refine (bytes_any a len cap V _ H.out H2.out).mono ?_
  rintro e w1 ⟨⟨b, rfl⟩, hw⟩
  subst w1
  cases b with
  | false =>
    go_wp2
    go_ret
    exact ⟨rfl, Below.refl _ _⟩
  | true =>
  go_wp2_with fail
  refine (weights_any a len cap V _ H.out H2.out).mono ?_
  rintro e w1 ⟨⟨r, rfl, hr⟩, hw⟩
  subst w1
  by_cases hr1 : 1048576 < r
  · clear hr
    go_wp2
    go_ret
    exact ⟨rfl, Below.refl _ _⟩
  obtain ⟨hl, hM⟩ := hr (by omega)
  have HM : Hid (∀ i, i < len → M2 131072 w (V i)) := hM
  clear hM hr
  by_cases hz : len = 0
  · have hz' : ((len : Int) == 0) = true := by rw [beq_iff_eq]; omega
    clear hz
    go_wp2_with fail
    go_ret
    exact ⟨rfl, Below.refl _ _⟩
  have hz' : ((len : Int) == 0) = false := by rw [beq_eq_false_iff_ne]; omega
  have hpos : 0 < len := by omega
  clear hz
  go_wp2_with fail
  refine (rows_any a len cap V _ H.out HM.out).mono ?_
  rintro e w1 ⟨⟨b, rfl, hb⟩, hw⟩
  subst w1
  cases b with
  | false =>
    go_wp2
    go_ret
    exact ⟨rfl, Below.refl _ _⟩
  | true =>
  have HN : Hid (∀ i, i < len → NonEmpty (V i)) := hb rfl
  clear hb
  obtain ⟨x, rfl⟩ : ∃ x, a = some x := by
    cases a with
    | none => exact absurd (H.out.2.2.1 rfl).1 (by omega)
    | some x => exact ⟨x, rfl⟩
  go_wp2_with fail
  refine (copyW_any x len cap V _ H.out hl HM.out HN.out).mono ?_
  rintro e w1 ⟨rfl, hH, hb1⟩
  go_wp2_with fail
  refine (build_any w.heap.size len w1 hH hl).mono ?_
  rintro e w2 ⟨rfl, hH2, hb2⟩
  clear hH
  have hH3 : Half 42 w2 (w1.heap.size + 1) len len (Good w.heap.size w2) := hH2.like fun v hv => hv.carry fun g _ h' => hb2.block g h'
  clear hH2
  go_wp2_with fail
  refine (shape_any w.heap.size _ len w2 hpos hl hH3).mono ?_
  rintro e w3 ⟨⟨g', c', rfl⟩, hb3⟩
  have hb4 : Below w.heap.size w w2 := hb1.trans (hb2.mono hb1.size)
  have hb5 : Below w.heap.size w w3 := hb4.trans (hb3.mono hb4.size)
  clear hH3 hb1 hb2 hb3 hb4
  go_wp2
  go_ret
  exact ⟨rfl, hb5⟩
end Go.Proofs.Qxb6604679a
