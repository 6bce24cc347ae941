/-
  FnShapeLayersCountsHyphens (3): the law's walk.
-/
import Derived.Test.Qxb6604679aDoorStr
namespace Go.Proofs.Qxb6604679aDoor
open Go.ChangeShapes Go.WideShapes Go.ChangeAt Go.RowKit

theorem take_snoc (s : ByteArray) (k : Nat) (h : k < s.size) : s.data.toList.take (k + 1) = s.data.toList.take k ++ [s[k]] := by
  rw [List.take_succ_eq_append_getElem (by simpa using h)]; rfl

theorem nums_succ (z : Nat → Int) (k : Nat) : nums z (k + 1) = nums z k ++ [z k] := by
  unfold nums; rw [List.range_succ, List.map_append]; rfl

/-- The plain law at the text of len numbers, len > 0. -/
theorem text_facts (z : Nat → Int) (len : Nat) (h : 0 < len) : hy (text z len) = (len - 1) + neg (nums z len) ∧ ot (text z len) = 0 ∧ (text z len).length = wid (nums z len) + neg (nums z len) + (len - 1) := by
  obtain ⟨n, r, e⟩ : ∃ n r, nums z len = n :: r := by
    cases hn : nums z len with
    | nil => have := congrArg List.length hn; simp [nums] at this; omega
    | cons n r => exact ⟨n, r, rfl⟩
  have hl : r.length = len - 1 := by have := congrArg List.length e; simp [nums] at this; omega
  unfold text
  rw [e, ← hl]
  exact text_all n r

theorem nums_bounds (z : Nat → Int) (k len : Nat) (hk : k ≤ len) (hz : ∀ i, i < len → -9223372036854775808 ≤ z i ∧ z i ≤ 9223372036854775807) : ∀ n ∈ nums z k, -9223372036854775808 ≤ n ∧ n ≤ 9223372036854775807 := by
  intro n hn
  unfold nums at hn
  obtain ⟨i, hi, rfl⟩ := List.mem_map.1 hn
  exact hz i (by have := List.mem_range.1 hi; omega)

theorem text_len (z : Nat → Int) (len : Nat) (hl : len ≤ 32768) (hz : ∀ i, i < len → -9223372036854775808 ≤ z i ∧ z i ≤ 9223372036854775807) : (text z len).length ≤ 720896 := by
  by_cases h : 0 < len
  · have h1 := (text_facts z len h).2.2
    have h2 := wid_le (nums z len) (nums_bounds z len len (Nat.le_refl _) hz)
    have h3 := neg_le (nums z len)
    have h4 : (nums z len).length = len := by simp [nums]
    omega
  · obtain rfl : len = 0 := by omega
    exact Nat.zero_le _

theorem c45 (c : UInt8) : (c == 45) = ((c.toNat : Int) == 45) := by
  rw [Bool.eq_iff_iff, beq_iff_eq, beq_iff_eq]
  constructor
  · rintro rfl; rfl
  · intro h
    exact UInt8.toNat_inj.1 (by have : (45 : UInt8).toNat = 45 := rfl; omega)
theorem cnt_hy (c : UInt8) (h : ((c.toNat : Int) == 45) = true) : (if c == 45 then 1 else 0) = 1 ∧ (if oth c then 1 else 0) = 0 := by
  unfold oth; rw [c45, h]; exact ⟨rfl, rfl⟩
theorem cnt_ot (c : UInt8) (h : ((c.toNat : Int) == 45) = false) (h2 : (c.toNat : Int) < 48 ∨ (57 : Int) < (c.toNat : Int)) : (if c == 45 then 1 else 0) = 0 ∧ (if oth c then 1 else 0) = 1 := by
  unfold oth; rw [c45, h]
  refine ⟨rfl, ?_⟩
  rw [if_pos]
  simp; omega
theorem cnt_dg (c : UInt8) (h : ((c.toNat : Int) == 45) = false) (h2 : (48 : Int) ≤ (c.toNat : Int)) (h3 : (c.toNat : Int) ≤ 57) : (if c == 45 then 1 else 0) = 0 ∧ (if oth c then 1 else 0) = 0 := by
  unfold oth; rw [c45, h]
  refine ⟨rfl, ?_⟩
  rw [if_neg]
  simp; omega

set_option maxHeartbeats 400000 in
theorem law3_long (a : Option Addr) (len cap : Nat) (w : World) (hl : 32768 < len) (hm : len ≤ maxLen) :
    Calls Tryd.prog 3 #[.slice a len cap] w fun e w' => e = .returned (.bool true) ∧ Below w.heap.size w w' := by
  unfold maxLen at hm
  by_cases hb : 1048576 < len
  · go_enter Tryd.func3, Tryd.ntmps3
    go_wp2
    go_ret
    exact ⟨rfl, Below.refl _ _⟩
  · go_enter Tryd.func3, Tryd.ntmps3
    go_wp2
    go_ret
    exact ⟨rfl, Below.refl _ _⟩

set_option maxHeartbeats 1000000 in
theorem law3_short (a : Option Addr) (len cap : Nat) (z : Nat → Int) (w : World) (h : IRow w a len cap z) (hl : len ≤ 32768) (hz : ∀ i, i < len → -9223372036854775808 ≤ z i ∧ z i ≤ 9223372036854775807) (ht : Tab w) :
    Calls Tryd.prog 3 #[.slice a len cap] w fun e w' => e = .returned (.bool true) ∧ Below w.heap.size w w' := by
  have HF : Hid (IRow w a len cap z) := h
  have HZ : Hid (∀ i, i < len → -9223372036854775808 ≤ z i ∧ z i ≤ 9223372036854775807) := hz
  have htl := text_len z len hl hz
  clear h hz
  go_enter Tryd.func3, Tryd.ntmps3
  go_wp2_with (first | (go_at_call 5; refine (copy_any a len cap z _ HF.out (by omega)).mono ?_; rintro e w1 ⟨a', cap', rfl, hrow, hb⟩; refine Hid.out ?_) | go_in)
  have hT1 : Tab w1 := ht.below hb
  have hs := string_any a' len cap' z w1 hrow hl HZ.out hT1 (by omega)
  clear HF ht hT1
  obtain ⟨s, es⟩ : ∃ s : ByteArray, s = ⟨(text z len).toArray⟩ := ⟨_, rfl⟩
  rw [← es] at hs
  have ES : Hid (s.data.toList = text z len) := by unfold Hid; rw [es]
  have hsz : s.size ≤ 720896 := by rw [es]; exact htl
  have HS : Hid (Calls Tryd.prog 7 #[.slice a' len cap'] w1 fun e w' => e = .returned (.string s) ∧ Below w1.heap.size w1 w') := hs
  clear hs es htl
  have HR : Hid (IRow w1 a' len cap' z) := hrow
  clear hrow
  refine Lib.hid ?_
  go_wp2_with (first | (go_at_call 7; refine HS.out.mono ?_; rintro e w2 ⟨rfl, hb2⟩; refine Hid.out ?_) | go_in)
  have hB : Below w.heap.size w w2 := hb.trans (hb2.mono hb.size)
  have hrow2 : Hid (IRow w2 a' len cap' z) := HR.out.below hb2
  clear HS HR hb hb2
  refine Lib.hid ?_
  by_cases h0 : len = 0
  · have h0' : ((len : Int) == 0) = true := by rw [beq_iff_eq]; omega
    have h1' : ((len : Int) - 1 == -1) = true := by rw [beq_iff_eq]; omega
    have hs0 : s.toList.isEmpty = true := by
      have e : s.data.toList = [] := by rw [ES.out, h0]; rfl
      obtain ⟨d⟩ := s
      obtain rfl : d = #[] := by simpa using e
      decide +kernel
    clear h0
    go_wp2
    go_ret
    exact ⟨by rw [← hs0]; rfl, hB⟩
  have h0' : ((len : Int) == 0) = false := by rw [beq_eq_false_iff_ne]; omega
  have hpos : 0 < len := by omega
  clear h0
  go_wp2
  go_loop [6, 7, 8] (fun h o i => ∃ k : Nat, k ≤ s.size ∧ i = .int .i64 k ∧ h = .int .i64 (hy (s.data.toList.take k)) ∧ o = .int .i64 (ot (s.data.toList.take k))) (fun _ _ i => s.size - (intOf i).toNat)
  case atStart => exact ⟨0, Nat.zero_le _, rfl, rfl, rfl⟩
  case round =>
    obtain ⟨k, hk, rfl, rfl, rfl⟩ := hrel
    by_cases hlt : k < s.size
    · have hb1 := hy_le (s.data.toList.take k)
      have hb2 := ot_le (s.data.toList.take k)
      have hb3 : (s.data.toList.take k).length ≤ k := List.length_take_le _ _
      have e1 : Hid (hy (s.data.toList.take (k + 1)) = hy (s.data.toList.take k) + if s[k] == 45 then 1 else 0) := by unfold Hid; rw [take_snoc s k hlt, hy_snoc]
      have e2 : Hid (ot (s.data.toList.take (k + 1)) = ot (s.data.toList.take k) + if oth s[k] then 1 else 0) := by unfold Hid; rw [take_snoc s k hlt, ot_snoc]
      go_wp2
      · have R := cnt_hy s[k] (by assumption)
        go_round
        case rel => exact ⟨k + 1, by omega, by go_num, by rw [e1.out, R.1]; go_num, by rw [e2.out, R.2, Nat.add_zero]⟩
        case measure => simp [intOf]; omega
      · have R := cnt_ot s[k] (by assumption) (by assumption)
        go_round
        case rel => exact ⟨k + 1, by omega, by go_num, by rw [e1.out, R.1, Nat.add_zero], by rw [e2.out, R.2]; go_num⟩
        case measure => simp [intOf]; omega
      · have hd : (48 : Int) ≤ (s[k].toNat : Int) ∧ (s[k].toNat : Int) ≤ 57 := by assumption
        have R := cnt_dg s[k] (by assumption) hd.1 hd.2
        go_round
        case rel => exact ⟨k + 1, by omega, by go_num, by rw [e1.out, R.1, Nat.add_zero], by rw [e2.out, R.2, Nat.add_zero]⟩
        case measure => simp [intOf]; omega
      · have hd : ¬ (48 : Int) ≤ (s[k].toNat : Int) := by assumption
        have R := cnt_ot s[k] (by assumption) (.inl (by omega))
        go_round
        case rel => exact ⟨k + 1, by omega, by go_num, by rw [e1.out, R.1, Nat.add_zero], by rw [e2.out, R.2]; go_num⟩
        case measure => simp [intOf]; omega
    · have F := text_facts z len hpos
      rw [← ES.out] at F
      obtain rfl : k = s.size := by omega
      have ew : s.data.toList.take s.size = s.data.toList := List.take_of_length_le (Nat.le_refl _)
      rw [ew]
      have F3 : s.size = wid (nums z len) + neg (nums z len) + (len - 1) := F.2.2
      have FF : Hid (hy s.data.toList = (len - 1) + neg (nums z len) ∧ ot s.data.toList = 0 ∧ s.size = wid (nums z len) + neg (nums z len) + (len - 1)) := ⟨F.1, F.2.1, F3⟩
      clear F F3 ew
      have hbh := hy_le s.data.toList
      generalize hy s.data.toList = H1 at *
      generalize ot s.data.toList = O1 at *
      go_wp2
      go_loop [9, 10, 60] (fun g d i => ∃ k : Nat, k ≤ len ∧ i = .int .i64 k ∧ g = .int .i64 (neg (nums z k)) ∧ d = .int .i64 (wid (nums z k))) (fun _ _ i => len - (intOf i).toNat)
      case atStart => exact ⟨0, Nat.zero_le _, rfl, rfl, rfl⟩
      case round =>
        obtain ⟨k, hkl, rfl, rfl, rfl⟩ := hrel
        by_cases hlt2 : k < len
        · obtain ⟨b, off, rfl, hcell⟩ := hrow2.out.2.2.2 k hlt2
          obtain ⟨hz0, hz1⟩ := HZ.out k hlt2
          have q1 := neg_le (nums z k)
          have q2 := wid_le (nums z k) (nums_bounds z k len hkl HZ.out)
          have q3 : (nums z k).length ≤ 32768 := by simp [nums]; omega
          have q4 := nDigits_le20 (z k).natAbs (by omega)
          have e1 : Hid (neg (nums z (k + 1)) = neg (nums z k) + if z k < 0 then 1 else 0) := by unfold Hid; rw [nums_succ, neg_snoc]
          have e2 : Hid (wid (nums z (k + 1)) = wid (nums z k) + Lib.nDigits (z k).natAbs) := by unfold Hid; rw [nums_succ, wid_snoc]
          have hlt' : (k : Int) < (len : Int) := by omega
          generalize neg (nums z k) = g at *
          generalize wid (nums z k) = d at *
          generalize (nums z k).length = L at *
          have HD : Hid (∀ w, Calls Tryd.prog 8 #[.int .i64 (z k)] w fun e w' => e = .returned (.int .i64 (Lib.nDigits (z k).natAbs)) ∧ w' = w) := fun w => digits_any (z k) w hz0 hz1
          generalize Lib.nDigits (z k).natAbs = D at *
          clear hz0 hz1
          by_cases hn : z k < 0
          · go_wp2_with (go_at_call 8; refine (HD.out _).mono ?_; rintro e w5 ⟨rfl, hw5⟩; subst w5)
            go_round
            case rel => exact ⟨k + 1, by omega, by go_num, by rw [e1.out, if_pos hn]; go_num, by rw [e2.out]; go_num⟩
            case measure => simp [intOf]; omega
          · go_wp2_with (go_at_call 8; refine (HD.out _).mono ?_; rintro e w5 ⟨rfl, hw5⟩; subst w5)
            go_round
            case rel => exact ⟨k + 1, by omega, by go_num, by rw [e1.out, if_neg (by omega), Nat.add_zero], by rw [e2.out]; go_num⟩
            case measure => simp [intOf]; omega
        · obtain rfl : k = len := by omega
          have F := FF.out
          have q1 := neg_le (nums z k)
          have q2 := wid_le (nums z k) (nums_bounds z k k (Nat.le_refl _) HZ.out)
          have q3 : (nums z k).length ≤ 32768 := by simp [nums]; omega
          generalize neg (nums z k) = g at *
          generalize wid (nums z k) = d at *
          generalize (nums z k).length = L at *
          have t1 : ((O1 : Int) == 0) = true := by rw [beq_iff_eq]; omega
          have t2 : ((H1 : Int) == (k : Int) - 1 + g) = true := by rw [beq_iff_eq]; omega
          have t3 : ((s.size : Int) == (d : Int) + g + ((k : Int) - 1)) = true := by rw [beq_iff_eq]; omega
          clear F
          go_wp2
          go_ret
          exact ⟨rfl, hB⟩
end Go.Proofs.Qxb6604679aDoor
