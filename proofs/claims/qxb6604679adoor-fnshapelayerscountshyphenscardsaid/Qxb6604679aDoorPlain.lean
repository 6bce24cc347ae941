/-
  THE PLAIN LAW, no Go in sight: how many hyphens, other bytes and bytes at all the joined decimal numerals of a list of integers have.
-/
import Derived.Lib.ItoaNum
import Derived.Lib.Join
namespace Go.Proofs.Qxb6604679aDoor
open Go

/-- The hyphens. -/
def hy (l : List UInt8) : Nat := l.countP fun c => c == 45
/-- Neither hyphen nor digit. -/
def oth (c : UInt8) : Bool := !(c == 45) && (decide (c.toNat < 48) || decide (57 < c.toNat))
def ot (l : List UInt8) : Nat := l.countP oth
/-- How many are negative. -/
def neg (l : List Int) : Nat := l.countP fun n => decide (n < 0)
/-- The digits of all. -/
def wid (l : List Int) : Nat := (l.map fun n => Lib.nDigits n.natAbs).sum

theorem digit_byte (d : Nat) (h : d < 10) : (UInt8.ofNat (48 + d)).toNat = 48 + d := by
  rw [UInt8.toNat_ofNat']
  omega

theorem digit_hy (d : Nat) (h : d < 10) : ((UInt8.ofNat (48 + d)) == 45) = false := by
  rw [beq_eq_false_iff_ne]
  intro e
  have := congrArg UInt8.toNat e
  rw [digit_byte d h] at this
  have h2 : (45 : UInt8).toNat = 45 := rfl
  omega

theorem digit_oth (d : Nat) (h : d < 10) : oth (UInt8.ofNat (48 + d)) = false := by
  unfold oth
  rw [digit_byte d h]
  simp
  intro _
  omega

theorem dec_hy (u : Nat) : hy (Lib.decDigits u) = 0 := by
  induction u using Nat.strongRecOn with
  | _ u ih =>
    rw [Lib.decDigits]
    split
    · rename_i h
      unfold hy
      rw [List.countP_cons, digit_hy u h]; rfl
    · unfold hy at ih ⊢
      rw [List.countP_append, ih (u / 10) (by omega), List.countP_cons, digit_hy _ (by omega)]; rfl

theorem dec_ot (u : Nat) : ot (Lib.decDigits u) = 0 := by
  induction u using Nat.strongRecOn with
  | _ u ih =>
    rw [Lib.decDigits]
    split
    · rename_i h
      unfold ot
      rw [List.countP_cons, digit_oth u h]; rfl
    · unfold ot at ih ⊢
      rw [List.countP_append, ih (u / 10) (by omega), List.countP_cons, digit_oth _ (by omega)]; rfl

theorem oth_hyphen : oth 45 = false := by decide

theorem itoa_hy (n : Int) : hy (Lib.itoa n) = if n < 0 then 1 else 0 := by
  unfold Lib.itoa
  split
  · have := dec_hy n.natAbs
    unfold hy at this ⊢
    rw [List.countP_cons, this]; rfl
  · exact dec_hy _

theorem itoa_ot (n : Int) : ot (Lib.itoa n) = 0 := by
  unfold Lib.itoa
  split
  · have := dec_ot n.natAbs
    unfold ot at this ⊢
    rw [List.countP_cons, this, oth_hyphen]; rfl
  · exact dec_ot _

theorem itoa_len (n : Int) : (Lib.itoa n).length = Lib.nDigits n.natAbs + if n < 0 then 1 else 0 := by
  unfold Lib.itoa
  split
  · rw [List.length_cons, Lib.decDigits_length]
  · rw [Lib.decDigits_length, show n.toNat = n.natAbs from by omega]; rfl

theorem tail_all (r : List Int) : hy (Lib.joinTail [45] (r.map Lib.itoa)) = r.length + neg r ∧ ot (Lib.joinTail [45] (r.map Lib.itoa)) = 0 ∧
    (Lib.joinTail [45] (r.map Lib.itoa)).length = r.length + neg r + wid r := by
  induction r with
  | nil => exact ⟨rfl, rfl, rfl⟩
  | cons n r ih =>
    have e : Lib.joinTail [45] ((n :: r).map Lib.itoa) = 45 :: (Lib.itoa n ++ Lib.joinTail [45] (r.map Lib.itoa)) := by simp [Lib.joinTail]
    rw [e]
    obtain ⟨h1, h2, h3⟩ := ih
    have hn : neg (n :: r) = neg r + if n < 0 then 1 else 0 := by
      unfold neg; rw [List.countP_cons]; by_cases h : n < 0 <;> simp [h]
    have hw : wid (n :: r) = Lib.nDigits n.natAbs + wid r := by simp [wid]
    have a1 := itoa_hy n
    have a2 := itoa_ot n
    have a3 := itoa_len n
    unfold hy ot at *
    refine ⟨?_, ?_, ?_⟩
    · rw [List.countP_cons, List.countP_append, a1, h1, hn, List.length_cons]; simp; omega
    · rw [List.countP_cons, List.countP_append, a2, h2, oth_hyphen]; rfl
    · rw [List.length_cons, List.length_append, a3, h3, hn, hw, List.length_cons]; omega

/-- THE LAW: of the joined numerals of a list that is not empty. -/
theorem text_all (n : Int) (r : List Int) : hy (Lib.join ((n :: r).map Lib.itoa) [45]) = r.length + neg (n :: r) ∧ ot (Lib.join ((n :: r).map Lib.itoa) [45]) = 0 ∧
    (Lib.join ((n :: r).map Lib.itoa) [45]).length = wid (n :: r) + neg (n :: r) + r.length := by
  rw [List.map_cons, Lib.join_cons]
  obtain ⟨h1, h2, h3⟩ := tail_all r
  have hn : neg (n :: r) = neg r + if n < 0 then 1 else 0 := by
    unfold neg; rw [List.countP_cons]; by_cases h : n < 0 <;> simp [h]
  have hw : wid (n :: r) = Lib.nDigits n.natAbs + wid r := by simp [wid]
  have a1 := itoa_hy n
  have a2 := itoa_ot n
  have a3 := itoa_len n
  unfold hy ot at *
  refine ⟨?_, ?_, ?_⟩
  · rw [List.countP_append, a1, h1, hn]; omega
  · rw [List.countP_append, a2, h2]
  · rw [List.length_append, a3, h3, hn, hw]; omega

theorem neg_snoc (l : List Int) (n : Int) : neg (l ++ [n]) = neg l + if n < 0 then 1 else 0 := by
  unfold neg; rw [List.countP_append, List.countP_cons]; by_cases h : n < 0 <;> simp [h]
theorem wid_snoc (l : List Int) (n : Int) : wid (l ++ [n]) = wid l + Lib.nDigits n.natAbs := by simp [wid]
theorem hy_snoc (l : List UInt8) (c : UInt8) : hy (l ++ [c]) = hy l + if c == 45 then 1 else 0 := by
  unfold hy; rw [List.countP_append, List.countP_cons]; simp
theorem ot_snoc (l : List UInt8) (c : UInt8) : ot (l ++ [c]) = ot l + if oth c then 1 else 0 := by
  unfold ot; rw [List.countP_append, List.countP_cons]; simp
theorem neg_le (l : List Int) : neg l ≤ l.length := List.countP_le_length
theorem hy_le (l : List UInt8) : hy l ≤ l.length := List.countP_le_length
theorem ot_le (l : List UInt8) : ot l ≤ l.length := List.countP_le_length

/-- One step of the counting of digits: division that truncates takes one digit off. -/
theorem digits_step (u : Int) (h : 10 ≤ u ∨ u ≤ -10) : Lib.nDigits u.natAbs = Lib.nDigits (u.tdiv 10).natAbs + 1 := by
  rw [Lib.nDigits_big (by omega), Int.natAbs_tdiv]
  rfl
theorem digits_end (u : Int) (h : ¬ 10 ≤ u) (h' : ¬ u ≤ -10) : Lib.nDigits u.natAbs = 1 := Lib.nDigits_small (by omega)

theorem nDigits_le20 (u : Nat) (h : u < 18446744073709551616) : Lib.nDigits u ≤ 20 := by
  have hb : ∀ (k v : Nat), v < 10 ^ (k + 1) → Lib.nDigits v ≤ k + 1 := by
    intro k
    induction k with
    | zero => intro v hv; rw [Lib.nDigits_small (by simpa using hv)]; exact Nat.le_refl _
    | succ k ih =>
      intro v hv
      by_cases h10 : v < 10
      · rw [Lib.nDigits_small h10]; omega
      · rw [Lib.nDigits_big h10]
        have := ih (v / 10) (by rw [Nat.pow_succ] at hv; omega)
        omega
  exact hb 19 u (by omega)

theorem wid_le (l : List Int) (h : ∀ n ∈ l, -9223372036854775808 ≤ n ∧ n ≤ 9223372036854775807) : wid l ≤ 20 * l.length := by
  induction l with
  | nil => exact Nat.le_refl _
  | cons n r ih =>
    have h1 := ih (fun m hm => h m (List.mem_cons_of_mem _ hm))
    have h2 := h n List.mem_cons_self
    have h3 := nDigits_le20 n.natAbs (by omega)
    have e : wid (n :: r) = Lib.nDigits n.natAbs + wid r := by simp [wid]
    rw [e, List.length_cons]; omega
end Go.Proofs.Qxb6604679aDoor
