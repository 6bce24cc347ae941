/-
  'Rows.FnShareEvensTheKindsSaid': the walk.
-/
import Derived.Test.Qxb6602899aShare
namespace Go.Proofs.Qxb6602899a
open Go.ChangeShapes Go.WideShapes Go.ChangeAt Go.RowKit

set_option maxHeartbeats 1000000 in
theorem evens_out (a b c : Int) (d : Bool) (w : World) (h : a < 0 ∨ b < 0 ∨ c < 0 ∨ 2305843009213693951 < a ∨ 2305843009213693951 < b ∨ 2305843009213693951 < c) :
    Calls Try.prog 3 #[.int .i64 a, .int .i64 b, .int .i64 c, .bool d] w fun e w' => e = .returned (.bool true) ∧ Grown w w' := by
  by_cases h1 : a < 0
  · go_enter Try.func3, Try.ntmps3
    go_wp2
    go_ret
    exact ⟨rfl, Grown.refl _⟩
  by_cases h2 : b < 0
  · go_enter Try.func3, Try.ntmps3
    go_wp2
    go_ret
    exact ⟨rfl, Grown.refl _⟩
  by_cases h3 : c < 0
  · go_enter Try.func3, Try.ntmps3
    go_wp2
    go_ret
    exact ⟨rfl, Grown.refl _⟩
  by_cases h4 : 2305843009213693951 < a
  · go_enter Try.func3, Try.ntmps3
    go_wp2
    go_ret
    exact ⟨rfl, Grown.refl _⟩
  by_cases h5 : 2305843009213693951 < b
  · go_enter Try.func3, Try.ntmps3
    go_wp2
    go_ret
    exact ⟨rfl, Grown.refl _⟩
  by_cases h6 : 2305843009213693951 < c
  · go_enter Try.func3, Try.ntmps3
    go_wp2
    go_ret
    exact ⟨rfl, Grown.refl _⟩
  omega

set_option maxHeartbeats 1000000 in
theorem evens_in (a b c : Int) (d : Bool) (w : World) (ha : 0 ≤ a) (hb : 0 ≤ b) (hc : 0 ≤ c) (ha' : a ≤ 2305843009213693951) (hb' : b ≤ 2305843009213693951) (hc' : c ≤ 2305843009213693951) :
    Calls Try.prog 3 #[.int .i64 a, .int .i64 b, .int .i64 c, .bool d] w fun e w' => e = .returned (.bool true) ∧ Grown w w' := by
  go_enter Try.func3, Try.ntmps3
  go_wp2_with fail
  refine (share_any a b c d _ ha hb hc ha' hb' hc').mono ?_
  rintro e w1 ⟨⟨k, rfl, hk⟩, hw⟩
  subst w1
  obtain ⟨k0, k1, k2, k3⟩ := hk
  cases d with
  | true =>
    have e1 : tieOf true = 1 := rfl
    rw [e1] at k2 k3
    by_cases p1 : 0 < k
    · have q1 := k2 p1
      by_cases p2 : k < a
      · have q2 := k3 p2
        clear k2 k3 e1
        go_wp2
        go_ret
        exact ⟨rfl, Grown.refl _⟩
      · clear k2 k3 e1
        go_wp2
        go_ret
        exact ⟨rfl, Grown.refl _⟩
    · by_cases p2 : k < a
      · have q2 := k3 p2
        clear k2 k3 e1
        go_wp2
        go_ret
        exact ⟨rfl, Grown.refl _⟩
      · clear k2 k3 e1
        go_wp2
        go_ret
        exact ⟨rfl, Grown.refl _⟩
  | false =>
    have e1 : tieOf false = 0 := rfl
    rw [e1] at k2 k3
    by_cases p1 : 0 < k
    · have q1 := k2 p1
      by_cases p2 : k < a
      · have q2 := k3 p2
        clear k2 k3 e1
        go_wp2
        go_ret
        exact ⟨rfl, Grown.refl _⟩
      · clear k2 k3 e1
        go_wp2
        go_ret
        exact ⟨rfl, Grown.refl _⟩
    · by_cases p2 : k < a
      · have q2 := k3 p2
        clear k2 k3 e1
        go_wp2
        go_ret
        exact ⟨rfl, Grown.refl _⟩
      · clear k2 k3 e1
        go_wp2
        go_ret
        exact ⟨rfl, Grown.refl _⟩

theorem evens_any (a b c : Int) (d : Bool) (w : World) : Calls Try.prog 3 #[.int .i64 a, .int .i64 b, .int .i64 c, .bool d] w fun e w' => e = .returned (.bool true) ∧ Grown w w' := by
  by_cases h : a < 0 ∨ b < 0 ∨ c < 0 ∨ 2305843009213693951 < a ∨ 2305843009213693951 < b ∨ 2305843009213693951 < c
  · exact evens_out a b c d w h
  · exact evens_in a b c d w (by omega) (by omega) (by omega) (by omega) (by omega) (by omega)
end Go.Proofs.Qxb6602899a
