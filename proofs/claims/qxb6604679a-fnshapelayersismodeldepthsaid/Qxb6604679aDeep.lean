/-
  A [][][]float64 that came in: what the walks ask of it; the three functions that only look at its lengths (6, 7, 8).
-/
import Derived.Test.Qxb6604679aFloats
namespace Go.Proofs.Qxb6604679a
open Go.ChangeShapes Go.WideShapes Go.ChangeAt Go.RowKit

/-- A slice whose elements' cells hold V 0, V 1, .. -/
def SRow (w : World) (a : Option Addr) (len cap : Nat) (V : Nat → Value) : Prop :=
  len ≤ cap ∧ cap ≤ maxLen ∧ (a = none → len = 0 ∧ cap = 0) ∧ ∀ i, i < len → ∃ b off, a = some ⟨b, off, none⟩ ∧ w.cell? ⟨b, off + i, none⟩ = some (V i)

/-- A []float64 of at most B elements. -/
def F1 (B : Nat) (w : World) (v : Value) : Prop := ∃ a n c f, v = .slice a n c ∧ n ≤ B ∧ FRow w a n c f
/-- A [][]float64, each length at most B. -/
def M2 (B : Nat) (w : World) (v : Value) : Prop := ∃ a n c V, v = .slice a n c ∧ n ≤ B ∧ SRow w a n c V ∧ ∀ j, j < n → F1 B w (V j)

/-- It returned a bool. -/
def GaveBool (e : Ending) : Prop := ∃ b, e = .returned (.bool b)

set_option maxHeartbeats 1000000 in
/-- zzBytes_FnShapeLayersIsModelDepth: it answers, and turns nothing. -/
theorem bytes_any (a : Option Addr) (len cap : Nat) (V : Nat → Value) (w : World) (h : SRow w a len cap V) (h2 : ∀ i, i < len → M2 maxLen w (V i)) :
    Calls Try.prog 6 #[.slice a len cap] w fun e w' => GaveBool e ∧ w' = w := by
  obtain ⟨hlc, hcm, _, hc⟩ := h
  have H : Hid (∀ i, i < len → ∃ b off, a = some ⟨b, off, none⟩ ∧ w.cell? ⟨b, off + i, none⟩ = some (V i)) := hc
  have H2 : Hid (∀ i, i < len → M2 maxLen w (V i)) := h2
  clear hc h2
  unfold maxLen at hcm
  by_cases hbig : 1048576 < len
  · go_enter Try.func6, Try.ntmps6
    go_wp2
    go_ret
    exact ⟨⟨_, rfl⟩, rfl⟩
  go_enter Try.func6, Try.ntmps6
  go_wp2
  go_loop [3, 4] (fun t i => ∃ (k : Nat) (z : Int), k ≤ len ∧ 0 ≤ z ∧ z ≤ 1048576 ∧ i = .int .i64 k ∧ t = .int .i64 z) (fun _ i => len - (intOf i).toNat)
  case atStart => exact ⟨0, _, Nat.zero_le _, by omega, by omega, rfl, rfl⟩
  case round =>
    obtain ⟨k, z, hk, hz0, hz1, rfl, rfl⟩ := hrel
    by_cases hlt : k < len
    · obtain ⟨b, off, rfl, hcell⟩ := H.out k hlt
      obtain ⟨a2, n2, c2, V2, e2, _, ⟨hl2, hm2, _, hc2⟩, hF⟩ := H2.out k hlt
      rw [e2] at hcell
      have HC2 : Hid (∀ i, i < n2 → ∃ b off, a2 = some ⟨b, off, none⟩ ∧ w.cell? ⟨b, off + i, none⟩ = some (V2 i)) := hc2
      have HF : Hid (∀ j, j < n2 → F1 maxLen w (V2 j)) := hF
      clear hc2 hF e2
      unfold maxLen at hm2
      have hlt' : (k : Int) < (len : Int) := by omega
      by_cases hb2 : 1048576 < n2
      · go_wp2
        go_ret
        exact ⟨⟨_, rfl⟩, rfl⟩
      by_cases hb3 : 1048576 < z + n2
      · go_wp2
        go_ret
        exact ⟨⟨_, rfl⟩, rfl⟩
      go_wp2
      go_loop [3, 5] (fun t i => ∃ (j : Nat) (z : Int), j ≤ n2 ∧ 0 ≤ z ∧ z ≤ 1048576 ∧ i = .int .i64 j ∧ t = .int .i64 z) (fun _ i => n2 - (intOf i).toNat)
      case atStart => exact ⟨0, _, Nat.zero_le _, by omega, by omega, rfl, rfl⟩
      case round =>
        obtain ⟨j, y, hj, hy0, hy1, rfl, rfl⟩ := hrel
        by_cases hjl : j < n2
        · obtain ⟨b2, off2, rfl, hcell2⟩ := HC2.out j hjl
          obtain ⟨a3, n3, c3, f, e3, _, hf⟩ := HF.out j hjl
          rw [e3] at hcell2
          clear e3
          have hn3 : n3 ≤ maxLen := Nat.le_trans hf.1 hf.2.1
          unfold maxLen at hn3
          clear hf
          have hjl' : (j : Int) < (n2 : Int) := by omega
          by_cases hb4 : 1048576 < n3
          · go_wp2
            go_ret
            exact ⟨⟨_, rfl⟩, rfl⟩
          by_cases hb5 : 1048576 < y + n3
          · go_wp2
            go_ret
            exact ⟨⟨_, rfl⟩, rfl⟩
          go_wp2
          go_round
          case rel => exact ⟨j + 1, y + n3, by omega, by omega, by omega, by go_num, rfl⟩
          case measure => simp [intOf]; omega
        · go_wp2
          go_round
          case rel => exact ⟨k + 1, y, by omega, by omega, by omega, by go_num, rfl⟩
          case measure => simp [intOf]; omega
    · go_wp2
      go_ret
      exact ⟨⟨_, rfl⟩, rfl⟩

/-- It returned an int; where that is at most 1048576, p holds. -/
def GaveLen (p : Prop) (e : Ending) : Prop := ∃ r : Int, e = .returned (.int .i64 r) ∧ (r ≤ 1048576 → p)
/-- It returned a bool; where that is true, p holds. -/
def GaveTrue (p : Prop) (e : Ending) : Prop := ∃ b : Bool, e = .returned (.bool b) ∧ (b = true → p)

set_option maxHeartbeats 1000000 in
/-- zzWeightsBytesModelB1: where it answers at most 1 << 20, no length is above 1 << 17. -/
theorem weights_any (a : Option Addr) (len cap : Nat) (V : Nat → Value) (w : World) (h : SRow w a len cap V) (h2 : ∀ i, i < len → M2 maxLen w (V i)) :
    Calls Try.prog 7 #[.slice a len cap] w fun e w' => GaveLen (len ≤ 131072 ∧ ∀ i, i < len → M2 131072 w (V i)) e ∧ w' = w := by
  obtain ⟨hlc, hcm, _, hc⟩ := h
  have H : Hid (∀ i, i < len → ∃ b off, a = some ⟨b, off, none⟩ ∧ w.cell? ⟨b, off + i, none⟩ = some (V i)) := hc
  have H2 : Hid (∀ i, i < len → M2 maxLen w (V i)) := h2
  clear hc h2
  unfold maxLen at hcm
  by_cases hbig : 131072 < len
  · go_enter Try.func7, Try.ntmps7
    go_wp2
    go_ret
    exact ⟨⟨_, rfl, fun h => absurd h (by omega)⟩, rfl⟩
  go_enter Try.func7, Try.ntmps7
  go_wp2
  go_loop [3, 14] (fun t i => ∃ (k : Nat) (z : Int), k ≤ len ∧ 0 ≤ z ∧ z ≤ 1048576 ∧ i = .int .i64 k ∧ t = .int .i64 z ∧ Hid (∀ i, i < k → M2 131072 w (V i))) (fun _ i => len - (intOf i).toNat)
  case atStart => exact ⟨0, _, Nat.zero_le _, by omega, by omega, rfl, rfl, fun i hi => absurd hi (Nat.not_lt_zero _)⟩
  case round =>
    obtain ⟨k, z, hk, hz0, hz1, rfl, rfl, HM⟩ := hrel
    by_cases hlt : k < len
    · obtain ⟨b, off, rfl, hcell⟩ := H.out k hlt
      obtain ⟨a2, n2, c2, V2, e2, _, hs2, hF⟩ := H2.out k hlt
      rw [e2] at hcell
      have E2 : Hid (V k = .slice a2 n2 c2) := e2
      have HS2 : Hid (SRow w a2 n2 c2 V2) := hs2
      have HF : Hid (∀ j, j < n2 → F1 maxLen w (V2 j)) := hF
      have hm2 : n2 ≤ maxLen := Nat.le_trans hs2.1 hs2.2.1
      clear hs2 hF e2
      unfold maxLen at hm2
      have hlt' : (k : Int) < (len : Int) := by omega
      by_cases hb2 : 131072 < n2
      · go_wp2
        go_ret
        exact ⟨⟨_, rfl, fun h => absurd h (by omega)⟩, rfl⟩
      by_cases hb3 : 1048576 < z + 8 * n2
      · go_wp2
        go_ret
        exact ⟨⟨_, rfl, fun h => absurd h (by omega)⟩, rfl⟩
      go_wp2
      go_loop [3, 39] (fun t i => ∃ (j : Nat) (z : Int), j ≤ n2 ∧ 0 ≤ z ∧ z ≤ 1048576 ∧ i = .int .i64 j ∧ t = .int .i64 z ∧ Hid (∀ i, i < j → F1 131072 w (V2 i))) (fun _ i => n2 - (intOf i).toNat)
      case atStart => exact ⟨0, _, Nat.zero_le _, by omega, by omega, rfl, rfl, fun i hi => absurd hi (Nat.not_lt_zero _)⟩
      case round =>
        obtain ⟨j, y, hj, hy0, hy1, rfl, rfl, HJ⟩ := hrel
        by_cases hjl : j < n2
        · obtain ⟨b2, off2, rfl, hcell2⟩ := HS2.out.2.2.2 j hjl
          obtain ⟨a3, n3, c3, f, e3, _, hf⟩ := HF.out j hjl
          rw [e3] at hcell2
          have HFJ : Hid (n3 ≤ 131072 → F1 131072 w (V2 j)) := fun hn => ⟨a3, n3, c3, f, e3, hn, hf⟩
          clear e3
          have hn3 : n3 ≤ maxLen := Nat.le_trans hf.1 hf.2.1
          unfold maxLen at hn3
          clear hf
          have hjl' : (j : Int) < (n2 : Int) := by omega
          by_cases hb4 : 131072 < n3
          · go_wp2
            go_ret
            exact ⟨⟨_, rfl, fun h => absurd h (by omega)⟩, rfl⟩
          by_cases hb5 : 1048576 < y + 8 * n3
          · go_wp2
            go_ret
            exact ⟨⟨_, rfl, fun h => absurd h (by omega)⟩, rfl⟩
          have HJ' : Hid (∀ i, i < j + 1 → F1 131072 w (V2 i)) := by
            intro i hi
            by_cases e : i = j
            · subst e; exact HFJ.out (by omega)
            · exact HJ.out i (by omega)
          go_wp2
          go_round
          case rel => exact ⟨j + 1, y + 8 * n3, by omega, by omega, by omega, by go_num, by go_num, HJ'⟩
          case measure => simp [intOf]; omega
        · have HM' : Hid (∀ i, i < k + 1 → M2 131072 w (V i)) := by
            intro i hi
            by_cases e : i = k
            · subst e; exact ⟨a2, n2, c2, V2, E2.out, by omega, HS2.out, fun i hi => HJ.out i (by omega)⟩
            · exact HM.out i (by omega)
          go_wp2
          go_round
          case rel => exact ⟨k + 1, y, by omega, by omega, by omega, by go_num, rfl, HM'⟩
          case measure => simp [intOf]; omega
    · go_wp2
      go_ret
      exact ⟨⟨_, rfl, fun _ => ⟨by omega, fun i hi => HM.out i (by omega)⟩⟩, rfl⟩

/-- A slice with at least one element. -/
def NonEmpty (v : Value) : Prop := ∃ a n c, v = .slice a n c ∧ 0 < n

set_option maxHeartbeats 1000000 in
/-- zzEveryLayerHasARowModelB1. -/
theorem rows_any (a : Option Addr) (len cap : Nat) (V : Nat → Value) (w : World) (h : SRow w a len cap V) (h2 : ∀ i, i < len → M2 131072 w (V i)) :
    Calls Try.prog 8 #[.slice a len cap] w fun e w' => GaveTrue (∀ i, i < len → NonEmpty (V i)) e ∧ w' = w := by
  obtain ⟨hlc, hcm, _, hc⟩ := h
  have H : Hid (∀ i, i < len → ∃ b off, a = some ⟨b, off, none⟩ ∧ w.cell? ⟨b, off + i, none⟩ = some (V i)) := hc
  have H2 : Hid (∀ i, i < len → M2 131072 w (V i)) := h2
  clear hc h2
  unfold maxLen at hcm
  go_enter Try.func8, Try.ntmps8
  go_wp2
  go_loop [6] (fun i => ∃ k : Nat, k ≤ len ∧ i = .int .i64 k ∧ Hid (∀ i, i < k → NonEmpty (V i))) (fun i => len - (intOf i).toNat)
  case atStart => exact ⟨0, Nat.zero_le _, rfl, fun i hi => absurd hi (Nat.not_lt_zero _)⟩
  case round =>
    obtain ⟨k, hk, rfl, HM⟩ := hrel
    by_cases hlt : k < len
    · obtain ⟨b, off, rfl, hcell⟩ := H.out k hlt
      obtain ⟨a2, n2, c2, V2, e2, hn2, _, _⟩ := H2.out k hlt
      rw [e2] at hcell
      have E2 : Hid (V k = .slice a2 n2 c2) := e2
      clear e2
      have hlt' : (k : Int) < (len : Int) := by omega
      by_cases hz : n2 = 0
      · have hz' : ((n2 : Int) == 0) = true := by rw [beq_iff_eq]; omega
        clear hz
        go_wp2
        go_ret
        exact ⟨⟨_, rfl, fun h => by cases h⟩, rfl⟩
      · have hz' : ((n2 : Int) == 0) = false := by rw [beq_eq_false_iff_ne]; omega
        have HM' : Hid (∀ i, i < k + 1 → NonEmpty (V i)) := by
          intro i hi
          by_cases e : i = k
          · subst e; exact ⟨a2, n2, c2, E2.out, by omega⟩
          · exact HM.out i (by omega)
        clear hz
        go_wp2
        go_round
        case rel => exact ⟨k + 1, by omega, by go_num, HM'⟩
        case measure => simp [intOf]; omega
    · go_wp2
      go_ret
      exact ⟨⟨_, rfl, fun _ i hi => HM.out i (by omega)⟩, rfl⟩
end Go.Proofs.Qxb6604679a
