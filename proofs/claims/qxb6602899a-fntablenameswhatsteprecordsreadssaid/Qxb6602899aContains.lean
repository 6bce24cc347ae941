/-
  zzContains (15): where sub occurs in s it answers true.
-/
import Derived.Test.Qxb6602899aRows
import Derived.WalkKit
import Derived.ProofKit
import Derived.WalkLawsBesides
import Derived.WalkSpells
import Derived.Deep.QuietTactic
import Derived.BigQuiet
namespace Go.Proofs.Qxb6602899a
open Go.ChangeShapes Go.WideShapes Go.ChangeAt Go.RowKit

/-- sub occurs in s at place p. -/
def Occurs (s sub : ByteArray) (p : Nat) : Prop := p + sub.size ≤ s.size ∧ ∀ j (h : j < sub.size) (h' : p + j < s.size), s[p + j] = sub[j]

set_option maxHeartbeats 1000000 in
theorem contains_any (s sub : ByteArray) (p : Nat) (w : World) (hs : s.size ≤ maxLen) (ho : Occurs s sub p) :
    Calls Try.prog 15 #[.string s, .string sub] w fun e w' => e = .returned (.bool true) ∧ ∃ n, w' = w.drewN n := by
  unfold maxLen at hs
  obtain ⟨hp, hm⟩ := ho
  have HM : Hid (∀ j (h : j < sub.size) (h' : p + j < s.size), s[p + j] = sub[j]) := hm
  clear hm
  have hle : (sub.size : Int) ≤ (s.size : Int) := by omega
  go_enter Try.func15, Try.ntmps15
  go_wp2
  go_loopw [5] (fun t wr => ∃ i n : Nat, i ≤ p ∧ t = .int .i64 i ∧ wr = w.drewN n) (fun t _ => p + 1 - (intOf t).toNat)
  case atStart => exact ⟨0, 0, Nat.zero_le _, rfl, rfl⟩
  case round =>
    obtain ⟨i, n, hi, rfl, rfl⟩ := hrel
    have hin : (i : Int) + (sub.size : Int) ≤ (s.size : Int) := by omega
    go_wp2
    go_loopw [6] (fun t wr => ∃ j m : Nat, j ≤ sub.size ∧ t = .int .i64 j ∧ wr = w.drewN m ∧ Hid (∀ t (h : t < j) (h1 : i + t < s.size) (h2 : t < sub.size), s[i + t] = sub[t])) (fun t _ => sub.size - (intOf t).toNat)
    case atStart => exact ⟨0, n, Nat.zero_le _, rfl, rfl, fun t h => absurd h (Nat.not_lt_zero _)⟩
    case round =>
      obtain ⟨j, m, hj, rfl, rfl, HJ⟩ := hrel
      by_cases hlt : j < sub.size
      · have hlt' : (j : Int) < (sub.size : Int) := by omega
        have hij : (i : Int) + (j : Int) < (s.size : Int) := by omega
        have hij' : i + j < s.size := by omega
        have hwr : IntKind.i64.wrap ((i : Int) + (j : Int)) = (i : Int) + (j : Int) := by rw [IntKind.wrap_i64]; omega
        have h0ij : (0 : Int) ≤ (i : Int) + (j : Int) := by omega
        go_wp2
        go_quiet (fail)
        go_wp2
        · have he : (((s[i + j]'hij').toNat : Int) == ((sub[j]'hlt).toNat : Int)) = true := by assumption
          have he' : s[i + j]'hij' = sub[j]'hlt := by
            rw [beq_iff_eq] at he
            exact UInt8.toNat_inj.1 (by omega)
          have HJ' : Hid (∀ t (h : t < j + 1) (h1 : i + t < s.size) (h2 : t < sub.size), s[i + t] = sub[t]) := by
            intro t h h1 h2
            by_cases e : t = j
            · subst e; exact he'
            · exact HJ.out t (by omega) h1 h2
          go_roundw
          case rel => exact ⟨j + 1, _, by omega, by go_num, rfl, HJ'⟩
          case measure => simp [intOf]; omega
        · have he : (((s[i + j]'hij').toNat : Int) == ((sub[j]'hlt).toNat : Int)) = false := by assumption
          have hip : i < p := by
            rcases Nat.lt_or_ge i p with h | h
            · exact h
            · exfalso
              obtain rfl : i = p := by omega
              rw [HM.out j hlt hij'] at he
              simp at he
          go_roundw
          case rel => exact ⟨i + 1, _, by omega, by go_num, rfl⟩
          case measure => simp [intOf]; omega
      · have hlt' : decide ((j : Int) < (sub.size : Int)) = false := decide_eq_false (by omega)
        have heq : ((j : Int) == (sub.size : Int)) = true := by rw [beq_iff_eq]; omega
        go_wp2
        go_quiet (fail)
        go_wp2
        go_ret
        exact ⟨rfl, _, rfl⟩
end Go.Proofs.Qxb6602899a
