/-
  FnNextSkipsBlanks (4): the law's walk.
-/
import Derived.Test.Qxb6002903aNext
namespace Go.Proofs.Qxb6002903a
open Go.ChangeShapes Go.WideShapes Go.ChangeAt Go.RowKit

/-! ### The plain law -/
theorem Skip.again {z : Nat → Int} {len p p' p'' : Nat} {c c2 : Int} (h : Skip z len p p' c) (h2 : Skip z len p' p'' c2) : p'' = p' ∧ c2 = c := by
  obtain ⟨a1, a2, a3, a4, a5⟩ := h
  obtain ⟨b1, b2, b3, b4, b5⟩ := h2
  by_cases hl : p' < len
  · obtain ⟨q1, q2⟩ := a4 hl
    have e : p'' = p' := by
      rcases Nat.lt_or_ge p' p'' with h | h
      · have := b3 p' (Nat.le_refl _) h
        rw [q1] at this
        cases this
      · omega
    subst e
    exact ⟨rfl, by rw [(b4 hl).2, q2]⟩
  · have e : p'' = p' := by omega
    subst e
    exact ⟨rfl, by rw [b5 (by omega), a5 (by omega)]⟩

theorem Skip.far {z : Nat → Int} {len p p' : Nat} {c : Int} (h : Skip z len p p' c) (hl : len ≤ p) : p' = p ∧ c = 0 := by
  obtain ⟨a1, a2, a3, a4, a5⟩ := h
  exact ⟨by omega, a5 (by omega)⟩

theorem BRow.below {w w' : World} {a : Option Addr} {len cap : Nat} {z : Nat → Int} (h : BRow w a len cap z) (hb : Below w.heap.size w w') : BRow w' a len cap z := by
  refine ⟨h.1, h.2.1, h.2.2.1, h.2.2.2.1, fun i hi => ?_⟩
  obtain ⟨b, off, e, hc⟩ := h.2.2.2.2 i hi
  exact ⟨b, off, e, (hb.cell (block_lt_of_cell hc)).trans hc⟩

theorem unhid {p : Prop} (h : p) : Hid p := h

/-! ### The walk -/
set_option maxHeartbeats 400000 in
theorem law_out (a : Option Addr) (len cap : Nat) (p : Int) (st : Bool) (w : World) (h : 1048576 < len ∨ p < 0) (hm : len ≤ maxLen) :
    Calls Try.prog 4 #[.slice a len cap, .int .i64 p, .bool st] w fun e w' => e = .returned (.bool true) ∧ Below w.heap.size w w' := by
  unfold maxLen at hm
  by_cases h1 : 1048576 < len
  · go_enter Try.func4, Try.ntmps4
    go_wp2
    go_ret
    exact ⟨rfl, Below.refl _ _⟩
  · have h2 : p < 0 := by omega
    go_enter Try.func4, Try.ntmps4
    go_wp2
    go_ret
    exact ⟨rfl, Below.refl _ _⟩

set_option maxHeartbeats 1000000 in
theorem law_in (a : Option Addr) (len cap p : Nat) (st : Bool) (z : Nat → Int) (w : World) (h : BRow w a len cap z) (hl : len ≤ 1048576) :
    Calls Try.prog 4 #[.slice a len cap, .int .i64 (p : Int), .bool st] w fun e w' => e = .returned (.bool true) ∧ Below w.heap.size w w' := by
  have HF : Hid (BRow w a len cap z) := h
  clear h
  have hd3 : decide ((1048576 : Int) < (len : Int)) = false := decide_eq_false (by omega)
  have hd4 : decide ((p : Int) < 0) = false := decide_eq_false (by omega)
  go_enter Try.func4, Try.ntmps4
  go_wp2_with (first | (go_at_call 7; refine (copy_any a len cap z _ HF.out hl).mono ?_; rintro e w1 ⟨a', cap', rfl, hrow, hb⟩; refine Hid.out ?_) | go_in)
  clear HF
  have hb2 : Below w1.heap.size w1 (w1.alloc (.cells #[.slice a' len cap', .int .i64 (p : Int), .bool st] 34)) := (Below.refl _ _).alloc (Nat.le_refl _) _
  have hk2 : Wk (w1.alloc (.cells #[.slice a' len cap', .int .i64 (p : Int), .bool st] 34)) w1.heap.size a' len cap' p st := heap_alloc_new _ _
  have hr2 := hrow.below hb2
  have HN : Hid (Calls Try.prog 12 #[.pointer (some ⟨w1.heap.size, 0, none⟩)] (w1.alloc (.cells #[.slice a' len cap', .int .i64 (p : Int), .bool st] 34)) fun e w' => ∃ p' c, e = .returned (.int .u8 c) ∧ Skip z len p p' c ∧ Wk w' w1.heap.size a' len cap' p' st ∧ Only w1.heap.size (w1.alloc (.cells #[.slice a' len cap', .int .i64 (p : Int), .bool st] 34)) w') :=
    next_any w1.heap.size a' len cap' p st z _ hk2 hr2 hl
  have HB2 : Hid (Below w.heap.size w (w1.alloc (.cells #[.slice a' len cap', .int .i64 (p : Int), .bool st] 34)) ∧ w.heap.size ≤ w1.heap.size) := ⟨hb.trans (hb2.mono hb.size), hb.size⟩
  have HK2 : Hid (Wk (w1.alloc (.cells #[.slice a' len cap', .int .i64 (p : Int), .bool st] 34)) w1.heap.size a' len cap' p st) := hk2
  have HR2 : Hid (BRow (w1.alloc (.cells #[.slice a' len cap', .int .i64 (p : Int), .bool st] 34)) a' len cap' z) := hr2
  clear hb2 hk2 hr2 hrow hb
  refine unhid ?_
  go_wp2_with (first | (go_at_call 12; refine HN.out.mono ?_; rintro e w3 ⟨p', c, rfl, hsk, hk3, ho3⟩; refine Hid.out ?_) | go_in)
  have HR3 : Hid (BRow w3 a' len cap' z) := HR2.out.only HK2.out ho3
  have HB3 : Hid (Below w.heap.size w w3) := HB2.out.1.trans (ho3.below HB2.out.2)
  have HS : Hid (Skip z len p p' c) := hsk
  have HK3 : Hid (Wk w3 w1.heap.size a' len cap' p' st) := hk3
  have c1 := hk3.cell1
  clear HN HK2 HR2 hk3 ho3 hsk
  refine unhid ?_
  by_cases hfar : len ≤ p
  · obtain ⟨rfl, rfl⟩ := HS.out.far hfar
    go_wp2
    go_ret
    exact ⟨by simp, HB3.out⟩
  have hp1 : p < len := by omega
  have hpp : p ≤ p' := HS.out.1
  have hpl : p' ≤ len := by have := HS.out.2.1; omega
  clear hfar
  have hd1 : decide (p' < p) = false := decide_eq_false (by omega)
  have hd2 : decide (len < p') = false := decide_eq_false (by omega)
  have hd5 : decide (len ≤ p) = false := decide_eq_false (by omega)
  go_wp2
  go_loopw [10] (fun t wr => ∃ i : Nat, p ≤ i ∧ i ≤ p' ∧ t = .int .i64 (i : Nat) ∧ wr = w3) (fun t _ => p' - (intOf t).toNat)
  case atStart => exact ⟨p, Nat.le_refl _, hpp, rfl, rfl⟩
  case round =>
    obtain ⟨i, hi1, hi2, rfl, hwr⟩ := hrel
    subst wr
    by_cases hlt : i < p'
    · obtain ⟨b, off, rfl, hcell⟩ := HR3.out.2.2.2.2 i (by omega)
      have hbl := HS.out.2.2.1 i hi1 hlt
      have HBL : Hid (∀ w, Calls Try.prog 14 #[.int .u8 (z i)] w fun e w' => e = .returned (.bool true) ∧ w' = w) := fun w => by rw [← hbl]; exact blank_any (z i) w
      have hlt' : (i : Int) < (p' : Int) := by omega
      have hil : (i : Int) < (len : Int) := by omega
      clear hbl c1
      go_wp2_with (go_at_call 14; refine (HBL.out _).mono ?_; rintro e w5 ⟨rfl, hw5⟩; subst w5)
      go_roundw
      case rel => refine ⟨_, _, _, _, _, _, _, _, _, _, _, _, _, ⟨i + 1, by omega, by omega, ?_, trivial⟩, rfl⟩; go_num
      case measure => simp [intOf]; omega
    · obtain rfl : i = p' := by omega
      have HN : Hid (Calls Try.prog 12 #[.pointer (some ⟨w1.heap.size, 0, none⟩)] w3 fun e w' => ∃ p'' c2, e = .returned (.int .u8 c2) ∧ Skip z len i p'' c2 ∧ Wk w' w1.heap.size a' len cap' p'' st ∧ Only w1.heap.size w3 w') :=
        next_any w1.heap.size a' len cap' i st z _ HK3.out HR3.out hl
      by_cases hend : i = len
      · have hc0 : c = 0 := HS.out.2.2.2.2 (by omega)
        have hend' : ((i : Int) == (len : Int)) = true := by rw [beq_iff_eq]; omega
        subst hc0
        have hil : ¬ (i : Int) < (i : Int) := by omega
        clear hend
        go_wp2_with (first | (go_at_call 12; refine HN.out.mono ?_; rintro e w6 ⟨p'', c2, rfl, hsk, hk6, ho6⟩; refine Hid.out ?_) | go_in)
        obtain ⟨rfl, rfl⟩ := HS.out.again hsk
        have c6 := hk6.cell1
        have HB6 : Hid (Below w.heap.size w w6) := HB3.out.trans (ho6.below HB2.out.2)
        clear hk6 ho6 hsk HN c1
        refine unhid ?_
        go_wp2
        go_ret
        exact ⟨by simp, HB6.out⟩
      · have hlen : i < len := by omega
        obtain ⟨hnb, hcz⟩ := HS.out.2.2.2.1 hlen
        obtain ⟨b, off, rfl, hcell⟩ := HR3.out.2.2.2.2 i hlen
        have hend' : ((i : Int) == (len : Int)) = false := by rw [beq_eq_false_iff_ne]; omega
        rw [← hcz] at hcell
        have HBL : Hid (∀ w, Calls Try.prog 14 #[.int .u8 c] w fun e w' => e = .returned (.bool false) ∧ w' = w) := fun w => by rw [← hnb, hcz]; exact blank_any (z i) w
        have hlen' : (i : Int) < (len : Int) := by omega
        clear hend hnb hcz
        go_wp2_with (first | (go_at_call 14; refine (HBL.out _).mono ?_; rintro e w5 ⟨rfl, hw5⟩; subst w5) | (go_at_call 12; refine HN.out.mono ?_; rintro e w6 ⟨p'', c2, rfl, hsk, hk6, ho6⟩; refine Hid.out ?_))
        obtain ⟨rfl, rfl⟩ := HS.out.again hsk
        have c6 := hk6.cell1
        have HB6 : Hid (Below w.heap.size w w6) := HB3.out.trans (ho6.below HB2.out.2)
        clear hk6 ho6 hsk HN c1 hcell HBL
        refine unhid ?_
        go_wp2
        go_ret
        exact ⟨by simp, HB6.out⟩
end Go.Proofs.Qxb6002903a
