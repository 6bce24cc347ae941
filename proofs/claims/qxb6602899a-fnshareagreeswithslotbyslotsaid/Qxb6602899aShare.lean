/-
  share (16), ZZShare (8): what they compute; the plain law of it.
-/
import Derived.Test.Qxb6602899aRows
import Derived.WalkKit
import Derived.ProofKit
import Derived.WalkLawsBesides
import Derived.WalkSpells
namespace Go.Proofs.Qxb6602899a
open Go.ChangeShapes Go.WideShapes Go.ChangeAt Go.RowKit

/-- k is the share of a free slots, b resumed and c fresh sagas, t = 1 where a tie goes to fresh, else 0. -/
def IsShare (a b c t k : Int) : Prop := 0 ≤ k ∧ k ≤ a ∧ (0 < k → 2 * k ≤ a + b - c + t) ∧ (k < a → a + b - c + t ≤ 2 * k + 1)

theorem IsShare.one {a b c t k k' : Int} (h : IsShare a b c t k) (h' : IsShare a b c t k') : k = k' := by
  unfold IsShare at h h'
  omega

theorem half (x : Int) : (0 ≤ x → x.tdiv 2 = x / 2) ∧ (x < 0 → x.tdiv 2 ≤ 0 ∧ x ≤ 2 * x.tdiv 2) := by
  refine ⟨fun h => Int.tdiv_eq_ediv_of_nonneg h, fun h => ?_⟩
  have e : x = -(-x) := by omega
  have h2 : x.tdiv 2 = -((-x) / 2) := by
    rw [e, Int.neg_tdiv, Int.tdiv_eq_ediv_of_nonneg (by omega), Int.neg_neg]
  omega

theorem share_hi {a b c t : Int} (x : Int) (hx : x = a + b - c + t) (ha : 0 ≤ a) (h : a < if x.tdiv 2 < 0 then 0 else x.tdiv 2) : IsShare a b c t a := by
  have := half x
  split at h <;> unfold IsShare <;> omega
theorem share_lo {a b c t : Int} (x : Int) (hx : x = a + b - c + t) (ha : 0 ≤ a) (h : x.tdiv 2 < 0) : IsShare a b c t 0 := by
  have := half x
  unfold IsShare; omega
theorem share_mid {a b c t : Int} (x : Int) (hx : x = a + b - c + t) (h0 : (if x.tdiv 2 < 0 then 0 else x.tdiv 2) ≤ a) (h : 0 ≤ x.tdiv 2) : IsShare a b c t (x.tdiv 2) := by
  have := half x
  rw [if_neg (by omega)] at h0
  unfold IsShare; omega

/-- The tie as a number. -/
def tieOf (b : Bool) : Int := if b then 1 else 0

/-- It returned the share. -/
def GaveShare (a b c t : Int) (e : Ending) : Prop := ∃ k, e = .returned (.int .i64 k) ∧ IsShare a b c t k

set_option maxHeartbeats 400000 in
theorem share_true (a b c : Int) (w : World) (ha : 0 ≤ a) (hb : 0 ≤ b) (hc : 0 ≤ c) (ha' : a ≤ 2305843009213693951) (hb' : b ≤ 2305843009213693951) (hc' : c ≤ 2305843009213693951) :
    Calls Try.prog 8 #[.int .i64 a, .int .i64 b, .int .i64 c, .bool true] w fun e w' => GaveShare a b c 1 e ∧ w' = w := by
  go_enter Try.func8, Try.ntmps8
  go_wp2
  all_goals go_ret
  · exact ⟨⟨_, rfl, share_hi (a + b - c + 1) rfl ha (by assumption)⟩, rfl⟩
  · exact ⟨⟨_, rfl, share_lo (a + b - c + 1) rfl ha (by assumption)⟩, rfl⟩
  · exact ⟨⟨_, rfl, share_mid (a + b - c + 1) rfl (by assumption) (by assumption)⟩, rfl⟩

set_option maxHeartbeats 400000 in
theorem share_false (a b c : Int) (w : World) (ha : 0 ≤ a) (hb : 0 ≤ b) (hc : 0 ≤ c) (ha' : a ≤ 2305843009213693951) (hb' : b ≤ 2305843009213693951) (hc' : c ≤ 2305843009213693951) :
    Calls Try.prog 8 #[.int .i64 a, .int .i64 b, .int .i64 c, .bool false] w fun e w' => GaveShare a b c 0 e ∧ w' = w := by
  go_enter Try.func8, Try.ntmps8
  go_wp2
  all_goals go_ret
  · exact ⟨⟨_, rfl, share_hi (a + b - c) (by omega) ha (by assumption)⟩, rfl⟩
  · exact ⟨⟨_, rfl, share_lo (a + b - c) (by omega) ha (by assumption)⟩, rfl⟩
  · exact ⟨⟨_, rfl, share_mid (a + b - c) (by omega) (by assumption) (by assumption)⟩, rfl⟩

theorem share_any (a b c : Int) (d : Bool) (w : World) (ha : 0 ≤ a) (hb : 0 ≤ b) (hc : 0 ≤ c) (ha' : a ≤ 2305843009213693951) (hb' : b ≤ 2305843009213693951) (hc' : c ≤ 2305843009213693951) :
    Calls Try.prog 8 #[.int .i64 a, .int .i64 b, .int .i64 c, .bool d] w fun e w' => GaveShare a b c (tieOf d) e ∧ w' = w := by
  cases d with
  | true => exact share_true a b c w ha hb hc ha' hb' hc'
  | false => exact share_false a b c w ha hb hc ha' hb' hc'
end Go.Proofs.Qxb6602899a
