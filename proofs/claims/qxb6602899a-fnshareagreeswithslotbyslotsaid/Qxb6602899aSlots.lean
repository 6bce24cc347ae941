/-
  'Rows.FnShareAgreesWithSlotBySlotSaid': the walk.
-/
import Derived.Test.Qxb6602899aShare
namespace Go.Proofs.Qxb6602899a
open Go.ChangeShapes Go.WideShapes Go.ChangeAt Go.RowKit

/-! ### The plain law: one slot more -/
theorem slot_fresh {i b c t k : Int} (h : IsShare i b c t k) (ht : t = 0 ∨ t = 1) (h1 : c + k < b + i - k ∨ (c + k = b + i - k ∧ t = 1)) : IsShare (i + 1) b c t (k + 1) := by
  unfold IsShare at *; omega
theorem slot_resumed {i b c t k : Int} (h : IsShare i b c t k) (ht : t = 0 ∨ t = 1) (h1 : ¬ c + k < b + i - k) (h2 : ¬ (c + k = b + i - k ∧ t = 1)) : IsShare (i + 1) b c t k := by
  unfold IsShare at *; omega
theorem slot_none (b c t : Int) : IsShare 0 b c t 0 := by unfold IsShare; omega
theorem tieOf_01 (d : Bool) : tieOf d = 0 ∨ tieOf d = 1 := by cases d <;> simp [tieOf]

set_option maxHeartbeats 1000000 in
theorem slots_out (a b c : Int) (d : Bool) (w : World) (h : a < 0 ∨ b < 0 ∨ c < 0 ∨ 65536 < a ∨ 2305843009213693951 < b ∨ 2305843009213693951 < c) :
    Calls Try.prog 4 #[.int .i64 a, .int .i64 b, .int .i64 c, .bool d] w fun e w' => e = .returned (.bool true) ∧ Grown w w' := by
  by_cases h1 : a < 0
  · go_enter Try.func4, Try.ntmps4
    go_wp2
    go_ret
    exact ⟨rfl, Grown.refl _⟩
  by_cases h2 : b < 0
  · go_enter Try.func4, Try.ntmps4
    go_wp2
    go_ret
    exact ⟨rfl, Grown.refl _⟩
  by_cases h3 : c < 0
  · go_enter Try.func4, Try.ntmps4
    go_wp2
    go_ret
    exact ⟨rfl, Grown.refl _⟩
  by_cases h4 : 65536 < a
  · go_enter Try.func4, Try.ntmps4
    go_wp2
    go_ret
    exact ⟨rfl, Grown.refl _⟩
  by_cases h5 : 2305843009213693951 < b
  · go_enter Try.func4, Try.ntmps4
    go_wp2
    go_ret
    exact ⟨rfl, Grown.refl _⟩
  by_cases h6 : 2305843009213693951 < c
  · go_enter Try.func4, Try.ntmps4
    go_wp2
    go_ret
    exact ⟨rfl, Grown.refl _⟩
  omega

set_option maxHeartbeats 1000000 in
theorem slots_in (a b c : Int) (d : Bool) (w : World) (ha : 0 ≤ a) (hb : 0 ≤ b) (hc : 0 ≤ c) (ha' : a ≤ 65536) (hb' : b ≤ 2305843009213693951) (hc' : c ≤ 2305843009213693951) :
    Calls Try.prog 4 #[.int .i64 a, .int .i64 b, .int .i64 c, .bool d] w fun e w' => e = .returned (.bool true) ∧ Grown w w' := by
  have f1 : decide (a < 0) = false := decide_eq_false (by omega)
  have f2 : decide (b < 0) = false := decide_eq_false (by omega)
  have f3 : decide (c < 0) = false := decide_eq_false (by omega)
  have f4 : decide (65536 < a) = false := decide_eq_false (by omega)
  have f5 : decide (2305843009213693951 < b) = false := decide_eq_false (by omega)
  have f6 : decide (2305843009213693951 < c) = false := decide_eq_false (by omega)
  have HS : Hid (∀ w, Calls Try.prog 8 #[.int .i64 a, .int .i64 b, .int .i64 c, .bool d] w fun e w' => GaveShare a b c (tieOf d) e ∧ w' = w) := fun w => share_any a b c d w ha hb hc (by omega) hb' hc'
  have ht := tieOf_01 d
  have HT : Hid (tieOf d = 1 ↔ d = true) := by unfold Hid; cases d <;> simp [tieOf]
  go_enter Try.func4, Try.ntmps4
  go_wp2
  go_loop [9, 10, 11, 12] (fun r f k i => ∃ (n m : Int), 0 ≤ n ∧ n ≤ a ∧ 0 ≤ m ∧ m ≤ n ∧ r = .int .i64 (b + n - m) ∧ f = .int .i64 (c + m) ∧ k = .int .i64 m ∧ i = .int .i64 n ∧ Hid (IsShare n b c (tieOf d) m)) (fun _ _ _ i => (a - intOf i).toNat)
  case atStart => exact ⟨0, 0, by omega, by omega, by omega, by omega, by go_num, by go_num, rfl, rfl, slot_none b c _⟩
  case round =>
    obtain ⟨n, m, hn0, hn1, hm0, hm1, rfl, rfl, rfl, rfl, HI⟩ := hrel
    by_cases hlt : n < a
    · by_cases p1 : c + m < b + n - m
      · have R : Hid (IsShare (n + 1) b c (tieOf d) (m + 1)) := slot_fresh HI.out ht (.inl p1)
        clear ht
        go_wp2
        go_round
        case rel => exact ⟨n + 1, m + 1, by omega, by omega, by omega, by omega, by go_num, by go_num, rfl, rfl, R⟩
        case measure => simp [intOf]; omega
      · have p1' : decide (c + m < b + n - m) = false := decide_eq_false p1
        by_cases p2 : c + m = b + n - m
        · have p2' : (c + m == b + n - m) = true := by rw [beq_iff_eq]; exact p2
          cases d with
          | true =>
            have R : Hid (IsShare (n + 1) b c (tieOf true) (m + 1)) := slot_fresh HI.out ht (.inr ⟨p2, rfl⟩)
            clear ht p2 p1
            go_wp2
            go_round
            case rel => exact ⟨n + 1, m + 1, by omega, by omega, by omega, by omega, by go_num, by go_num, rfl, rfl, R⟩
            case measure => simp [intOf]; omega
          | false =>
            have R : Hid (IsShare (n + 1) b c (tieOf false) m) := slot_resumed HI.out ht p1 (fun h => by have := h.2; simp [tieOf] at this)
            clear ht p2 p1
            go_wp2
            go_round
            case rel => exact ⟨n + 1, m, by omega, by omega, by omega, by omega, by go_num, rfl, rfl, rfl, R⟩
            case measure => simp [intOf]; omega
        · have p2' : (c + m == b + n - m) = false := by rw [beq_eq_false_iff_ne]; exact p2
          have R : Hid (IsShare (n + 1) b c (tieOf d) m) := slot_resumed HI.out ht p1 (fun h => p2 h.1)
          clear ht p2 p1
          go_wp2
          go_round
          case rel => exact ⟨n + 1, m, by omega, by omega, by omega, by omega, by go_num, rfl, rfl, rfl, R⟩
          case measure => simp [intOf]; omega
    · obtain rfl : n = a := by omega
      go_wp2_with fail
      refine (HS.out _).mono ?_
      rintro e w1 ⟨⟨k, rfl, hk⟩, hw⟩
      subst w1
      obtain rfl : k = m := hk.one HI.out
      clear hk HS
      go_wp2
      go_ret
      exact ⟨by simp, Grown.refl _⟩

theorem slots_any (a b c : Int) (d : Bool) (w : World) : Calls Try.prog 4 #[.int .i64 a, .int .i64 b, .int .i64 c, .bool d] w fun e w' => e = .returned (.bool true) ∧ Grown w w' := by
  by_cases h : a < 0 ∨ b < 0 ∨ c < 0 ∨ 65536 < a ∨ 2305843009213693951 < b ∨ 2305843009213693951 < c
  · exact slots_out a b c d w h
  · exact slots_in a b c d w (by omega) (by omega) (by omega) (by omega) (by omega) (by omega)
end Go.Proofs.Qxb6602899a
