/-
  zzCopyIntsModelB1 (5), zzDigitsModelB1 (8), (Shape).String (7).
-/
import Derived.Test.Qxb6604679aDoorShelf
import Derived.Test.Qxb6604679aDoorPlain
import Derived.WalkKit
import Derived.ProofKit
import Derived.WalkLawsBesides
import Derived.WalkSpells
namespace Go.Proofs.Qxb6604679aDoor
open Go.ChangeShapes Go.WideShapes Go.ChangeAt Go.RowKit

/-- What the walks ask of a slice of ints: the cells of its elements hold the numbers z 0, z 1, .. -/
def IRow (w : World) (a : Option Addr) (len cap : Nat) (z : Nat → Int) : Prop :=
  len ≤ cap ∧ cap ≤ maxLen ∧ (a = none → len = 0 ∧ cap = 0) ∧ ∀ i, i < len → ∃ b off, a = some ⟨b, off, none⟩ ∧ w.cell? ⟨b, off + i, none⟩ = some (.int .i64 (z i))

theorem IRow.below {w w' : World} {a : Option Addr} {len cap : Nat} {z : Nat → Int} (h : IRow w a len cap z) (hb : Below w.heap.size w w') : IRow w' a len cap z := by
  refine ⟨h.1, h.2.1, h.2.2.1, fun i hi => ?_⟩
  obtain ⟨b, off, e, hc⟩ := h.2.2.2 i hi
  exact ⟨b, off, e, (hb.cell (block_lt_of_cell hc)).trans hc⟩

/-- A new row of cells of type e, whose first k hold V 0, V 1, .. -/
def Fill (e : TypeId) (w : World) (g n k : Nat) (V : Nat → Value) : Prop :=
  ∃ xs, w.ownsRow g e 1 (.slice (some ⟨g, 0, none⟩) n n) n xs ∧ ∀ i, i < k → xs[i]? = some (V i)

theorem Fill.there {e : TypeId} {w : World} {g n k : Nat} {V : Nat → Value} (h : Fill e w g n k V) (j : Nat) (hj : j < n) : (∃ v, w.cell? ⟨g, j, none⟩ = some v) ∧ w.frozen? ⟨g, j, none⟩ = false := by
  obtain ⟨xs, h, _⟩ := h
  have hl : xs.length = n * 1 := h.1
  exact ⟨⟨_, (h.cellAt j (by omega)).trans (List.getElem?_eq_getElem (by omega))⟩, h.frozenAt j⟩

theorem Fill.put {e : TypeId} {w : World} {g n k : Nat} {V : Nat → Value} (h : Fill e w g n k V) (hk : k < n) : Fill e (w.setCell ⟨g, k, none⟩ (V k)) g n (k + 1) V := by
  obtain ⟨xs, h, h1⟩ := h
  have hl : xs.length = n * 1 := h.1
  refine ⟨_, (h.stored k (V k)).1, fun i hi => ?_⟩
  rw [List.getElem?_set]
  by_cases e : k = i
  · subst e; rw [if_pos rfl, if_pos (by omega)]
  · rw [if_neg e]; exact h1 i (by omega)

theorem Fill.carry {e : TypeId} {w w' : World} {g n k : Nat} {V : Nat → Value} (h : Fill e w g n k V) (hg : w'.heap[g]? = w.heap[g]?) : Fill e w' g n k V := by
  obtain ⟨xs, ⟨h0, h⟩, h1⟩ := h
  refine ⟨xs, ⟨h0, ?_⟩, h1⟩
  rcases h with h | ⟨g', cap, cur, hv, hb, hh, r⟩
  · exact absurd h.1 (by simp)
  · have e1 : g' = g := by simp at hv; exact hv.1.symm
    subst e1
    exact .inr ⟨g', cap, cur, hv, hb, by rw [hg]; exact hh, r⟩

theorem Fill.lt {e : TypeId} {w : World} {g n k : Nat} {V : Nat → Value} (h : Fill e w g n k V) : g < w.heap.size := by
  obtain ⟨xs, ⟨h0, h⟩, h1⟩ := h
  rcases h with h | ⟨g', cap, cur, hv, hb, hh, r⟩
  · exact absurd h.1 (by simp)
  · have e1 : g' = g := by simp at hv; exact hv.1.symm
    subst e1
    exact (Array.getElem?_eq_some_iff.1 hh).1

theorem Fill.at {e : TypeId} {w : World} {g n k : Nat} {V : Nat → Value} (h : Fill e w g n k V) (j : Nat) (hj : j < k) (hn : j < n) : w.cell? ⟨g, j, none⟩ = some (V j) := by
  obtain ⟨xs, h, h1⟩ := h
  rw [h.cellAt j (by omega)]
  exact h1 j hj

theorem Tryd.info3 : (Tryd.prog.info? 3).map (fun i => (i.zero, i.size, i.bytes)) = some (some (.int .i64 0), 1, 8) := by kernel_rfl
theorem Tryd.info9 : (Tryd.prog.info? 9).map (fun i => (i.zero, i.size, i.bytes)) = some (some (.string ⟨#[]⟩), 1, 16) := by kernel_rfl

theorem copy_nil (w : World) : Calls Tryd.prog 5 #[.slice none 0 0] w fun e w' => e = .returned (.slice none 0 0) ∧ w' = w := by
  have q := fun w => Lib.run_eql_slice_nil (P := Tryd.prog) w 22 3 none 0 0 0 0 Tryd.underlying22
  go_enter Tryd.func5, Tryd.ntmps5
  go_wp2
  go_ret
  exact ⟨rfl, rfl⟩

set_option maxHeartbeats 400000 in
theorem copy_some (x : Addr) (len cap : Nat) (z : Nat → Int) (w : World) (h : IRow w (some x) len cap z) (hl : len * 8 ≤ 140737488355328) :
    Calls Tryd.prog 5 #[.slice (some x) len cap] w fun e w' => e = .returned (.slice (some ⟨w.heap.size, 0, none⟩) len len) ∧ IRow w' (some ⟨w.heap.size, 0, none⟩) len len z ∧ Below w.heap.size w w' := by
  obtain ⟨hlc, hcm, _, hc⟩ := h
  have H : Hid (∀ i, i < len → ∃ b off, some x = some ⟨b, off, none⟩ ∧ w.cell? ⟨b, off + i, none⟩ = some (.int .i64 (z i))) := hc
  clear hc
  unfold maxLen at hcm
  have q := fun w => Lib.run_eql_slice_nil (P := Tryd.prog) w 22 3 (some x) len cap 0 0 Tryd.underlying22
  obtain ⟨i0, hi, hz0, hz1, hz2⟩ := info_parts Tryd.info3
  go_enter Tryd.func5, Tryd.ntmps5
  go_wp2_with (at_make; refine wpList_make_full _ rfl _ _ 22 rfl w.heap.size 3 i0 (.int .i64 0) 1 Tryd.underlying22 hi hz0 hz1 .i64 .i64 _ _ len rfl rfl (by simp) (by simp) (by rw [hz2]; omega) (by unfold maxLen; omega) (Nat.le_refl _) ?_; intro w1 hown hgrow)
  have hb1 : Below w.heap.size w w1 := (Below.refl _ _).grown hgrow (Nat.le_refl _) (fun k e => by cases e)
  have hf1 : Fill 3 w1 w.heap.size len 0 (fun i => .int .i64 (z i)) := ⟨_, hown, fun i hi => absurd hi (Nat.not_lt_zero _)⟩
  clear hgrow hi hz0 hz1 hz2 q hown
  go_loopw [12] (fun t wr => ∃ k : Nat, k ≤ len ∧ t = .int .i64 (k : Nat) ∧ Fill 3 wr w.heap.size len k (fun i => .int .i64 (z i)) ∧ Below w.heap.size w wr) (fun t _ => len - (intOf t).toNat)
  case atStart => exact ⟨0, Nat.zero_le _, rfl, hf1, hb1⟩
  case round =>
    clear hf1 hb1
    obtain ⟨k, hk, rfl, hf, hb⟩ := hrel
    by_cases hlt : k < len
    · obtain ⟨b, off, e, hcell⟩ := H.out k hlt
      obtain rfl : x = ⟨b, off, none⟩ := by simpa using e
      have hc1 : wr.cell? ⟨b, off + k, none⟩ = some (.int .i64 (z k)) := (hb.cell (block_lt_of_cell hcell)).trans hcell
      obtain ⟨⟨v2, hc2⟩, hfz⟩ := hf.there k hlt
      have R : Hid (Fill 3 (wr.setCell ⟨w.heap.size, k, none⟩ (.int .i64 (z k))) w.heap.size len (k + 1) (fun i => .int .i64 (z i)) ∧ Below w.heap.size w (wr.setCell ⟨w.heap.size, k, none⟩ (.int .i64 (z k)))) :=
        ⟨hf.put hlt, hb.setCell (p := ⟨w.heap.size, k, none⟩) (Nat.le_refl _) _⟩
      have hlt' : (k : Int) < (len : Int) := by omega
      clear hf hb e hcell
      go_wp2
      go_roundw
      case rel => exact ⟨k + 1, by omega, by go_num, R.out.1, R.out.2⟩
      case measure => simp [intOf]; omega
    · obtain rfl : k = len := by omega
      have R : Hid (∀ i, i < k → wr.cell? ⟨w.heap.size, 0 + i, none⟩ = some (.int .i64 (z i))) := fun i hi => by
        rw [Nat.zero_add]; exact hf.at i hi hi
      clear hf
      go_wp2
      go_ret
      exact ⟨rfl, ⟨Nat.le_refl _, by unfold maxLen; omega, (fun e => by cases e), fun i hi => ⟨_, _, rfl, R.out i hi⟩⟩, hb⟩

/-- The copy: the same numbers; a nil slice stays nil; nothing that was there has turned. -/
theorem copy_any (a : Option Addr) (len cap : Nat) (z : Nat → Int) (w : World) (h : IRow w a len cap z) (hl : len * 8 ≤ 140737488355328) :
    Calls Tryd.prog 5 #[.slice a len cap] w fun e w' => ∃ a' cap', e = .returned (.slice a' len cap') ∧ IRow w' a' len cap' z ∧ Below w.heap.size w w' := by
  cases a with
  | none =>
    obtain ⟨rfl, rfl⟩ := h.2.2.1 rfl
    refine (copy_nil w).mono ?_
    rintro e w' ⟨rfl, rfl⟩
    exact ⟨none, 0, rfl, h, Below.refl _ _⟩
  | some x =>
    refine (copy_some x len cap z w h hl).mono ?_
    rintro e w' ⟨rfl, h1, h2⟩
    exact ⟨_, _, rfl, h1, h2⟩

set_option maxHeartbeats 400000 in
theorem digits_any (u : Int) (w : World) (h0 : -9223372036854775808 ≤ u) (h1 : u ≤ 9223372036854775807) :
    Calls Tryd.prog 8 #[.int .i64 u] w fun e w' => e = .returned (.int .i64 (Lib.nDigits u.natAbs)) ∧ w' = w := by
  have hb := nDigits_le20 u.natAbs (by omega)
  go_enter Tryd.func8, Tryd.ntmps8
  go_wp2
  have hdp := Lib.nDigits_pos u.natAbs
  go_loop [0, 3] (fun t d => ∃ (v : Int) (k : Nat), -9223372036854775808 ≤ v ∧ v ≤ 9223372036854775807 ∧ 1 ≤ k ∧ k ≤ 20 ∧ t = .int .i64 v ∧ d = .int .i64 k ∧ Hid (k + Lib.nDigits v.natAbs = Lib.nDigits u.natAbs + 1)) (fun t _ => (intOf t).natAbs)
  case atStart => exact ⟨u, 1, h0, h1, by omega, by omega, rfl, rfl, by unfold Hid; omega⟩
  case round =>
    obtain ⟨v, k, hv0, hv1, hk1, hk2, rfl, rfl, HD⟩ := hrel
    have HB : Hid (Lib.nDigits u.natAbs ≤ 20) := hb
    clear hb h0 h1 hdp
    have hq : (v.tdiv 10).natAbs = v.natAbs / 10 := Int.natAbs_tdiv v 10
    by_cases hp : 10 ≤ v
    · have e := digits_step v (.inl hp)
      have hn := Lib.nDigits_pos (v.tdiv 10).natAbs
      have HF : Hid ((k + 1) + Lib.nDigits (v.tdiv 10).natAbs = Lib.nDigits u.natAbs + 1 ∧ k + 1 ≤ 20 ∧ -9223372036854775808 ≤ v.tdiv 10 ∧ v.tdiv 10 ≤ 9223372036854775807 ∧ (v.tdiv 10).natAbs < v.natAbs) := by
        have h1 := HD.out; have h2 := HB.out
        exact ⟨by omega, by omega, by omega, by omega, by omega⟩
      clear e hn hq
      go_wp2
      go_round
      case rel => exact ⟨v.tdiv 10, k + 1, HF.out.2.2.1, HF.out.2.2.2.1, by omega, HF.out.2.1, by rw [Int.tdiv_eq_ediv_of_nonneg (by omega)], by go_num, HF.out.1⟩
      case measure => have := HF.out.2.2.2.2; rw [Int.tdiv_eq_ediv_of_nonneg (by omega)] at this; simpa [intOf] using this
    · have hp' : decide (10 ≤ v) = false := by simpa using hp
      by_cases hm : v ≤ -10
      · have e := digits_step v (.inr hm)
        have hn := Lib.nDigits_pos (v.tdiv 10).natAbs
        have HF : Hid ((k + 1) + Lib.nDigits (v.tdiv 10).natAbs = Lib.nDigits u.natAbs + 1 ∧ k + 1 ≤ 20 ∧ -9223372036854775808 ≤ v.tdiv 10 ∧ v.tdiv 10 ≤ 9223372036854775807 ∧ (v.tdiv 10).natAbs < v.natAbs) := by
          have h1 := HD.out; have h2 := HB.out
          exact ⟨by omega, by omega, by omega, by omega, by omega⟩
        clear e hn hq
        go_wp2
        go_round
        case rel => exact ⟨v.tdiv 10, k + 1, HF.out.2.2.1, HF.out.2.2.2.1, by omega, HF.out.2.1, rfl, by go_num, HF.out.1⟩
        case measure => simpa [intOf] using HF.out.2.2.2.2
      · have hm' : decide (v ≤ -10) = false := by simpa using hm
        have HF : Hid (Lib.nDigits u.natAbs = k) := by
          have h1 := HD.out; have h2 := digits_end v hp hm
          unfold Hid; omega
        clear hq
        go_wp2
        go_ret
        exact ⟨by rw [HF.out]; rfl, rfl⟩

/-! ### String -/
theorem below_grow (w : World) (k : Nat) (os : Array Obj) : Below w.heap.size w (Sort.grow (w.drewN k) os) :=
  ⟨rfl, rfl, rfl, by simp [Sort.grow, World.drewN], fun i hi => by
    show (w.heap ++ os)[i]? = w.heap[i]?
    rw [Array.getElem?_append_left hi]⟩

theorem Tryd.powName : Tryd.prog.globalNamed powNm = some 0 := by kernel_rfl

/-- The table of the powers of ten lies in w as the program's text lays it. -/
def Tab (w : World) : Prop := Lib.TabIs Tryd.prog w powNm .u64 Lib.pow10Tab

theorem Tab.below {w w' : World} (h : Tab w) (hb : Below w.heap.size w w') : Tab w' := by
  unfold Tab Lib.TabIs World.var? at h ⊢
  rw [Tryd.powName] at h ⊢
  simp only [Option.bind_some] at h ⊢
  have hlt : 0 < w.heap.size := by
    rcases Nat.lt_or_ge 0 w.heap.size with h' | h'
    · exact h'
    · rw [Array.getElem?_eq_none h'] at h; cases h
  rw [hb.block 0 hlt]
  exact h

/-- The text of the first k numbers, as String joins them. -/
def texts (z : Nat → Int) (k : Nat) : List ByteArray := (List.range k).map fun i => ⟨(Lib.itoa (z i)).toArray⟩
def nums (z : Nat → Int) (k : Nat) : List Int := (List.range k).map z

theorem texts_data (z : Nat → Int) (k : Nat) : (texts z k).map (·.data.toList) = (nums z k).map Lib.itoa := by
  unfold texts nums
  rw [List.map_map, List.map_map]
  rfl

theorem texts_length (z : Nat → Int) (k : Nat) : (texts z k).length = k := by simp [texts]

/-- The text. -/
def text (z : Nat → Int) (k : Nat) : List UInt8 := Lib.join ((nums z k).map Lib.itoa) [45]

set_option maxHeartbeats 1000000 in
theorem string_any (a : Option Addr) (len cap : Nat) (z : Nat → Int) (w : World) (h : IRow w a len cap z) (hl : len ≤ 32768) (hz : ∀ i, i < len → -9223372036854775808 ≤ z i ∧ z i ≤ 9223372036854775807) (ht : Tab w)
    (hlen : (text z len).length ≤ 140737488355328) :
    Calls Tryd.prog 7 #[.slice a len cap] w fun e w' => e = .returned (.string ⟨(text z len).toArray⟩) ∧ Below w.heap.size w w' := by
  have H : Hid (∀ i, i < len → ∃ b off, a = some ⟨b, off, none⟩ ∧ w.cell? ⟨b, off + i, none⟩ = some (.int .i64 (z i))) := h.2.2.2
  have HZ : Hid (∀ i, i < len → -9223372036854775808 ≤ z i ∧ z i ≤ 9223372036854775807) := hz
  have HL : Hid ((text z len).length ≤ 140737488355328) := hlen
  clear h hz hlen
  obtain ⟨i0, hi, hz0, hz1, hz2⟩ := info_parts Tryd.info9
  go_enter Tryd.func7, Tryd.ntmps7
  go_wp2_with (at_make; refine wpList_make_full _ rfl _ _ 29 rfl w.heap.size 9 i0 (.string ⟨#[]⟩) 1 Tryd.underlying29 hi hz0 hz1 .i64 .i64 _ _ len rfl rfl (by simp) (by simp) (by rw [hz2]; omega) (by unfold maxLen; omega) (Nat.le_refl _) ?_; intro w1 hown hgrow)
  have hb1 : Below w.heap.size w w1 := (Below.refl _ _).grown hgrow (Nat.le_refl _) (fun k e => by cases e)
  have hf1 : Fill 9 w1 w.heap.size len 0 (fun i => .string ⟨(Lib.itoa (z i)).toArray⟩) := ⟨_, hown, fun i hi => absurd hi (Nat.not_lt_zero _)⟩
  clear hgrow hi hz0 hz1 hz2 hown
  go_loopw [11] (fun t wr => ∃ k : Nat, k ≤ len ∧ t = .int .i64 (k : Nat) ∧ Fill 9 wr w.heap.size len k (fun i => .string ⟨(Lib.itoa (z i)).toArray⟩) ∧ Below w.heap.size w wr) (fun t _ => len - (intOf t).toNat)
  case atStart => exact ⟨0, Nat.zero_le _, rfl, hf1, hb1⟩
  case round =>
    clear hf1 hb1
    obtain ⟨k, hk, rfl, hf, hb⟩ := hrel
    by_cases hlt : k < len
    · obtain ⟨b, off, rfl, hcell⟩ := H.out k hlt
      have hc1 : wr.cell? ⟨b, off + k, none⟩ = some (.int .i64 (z k)) := (hb.cell (block_lt_of_cell hcell)).trans hcell
      have hlt' : (k : Int) < (len : Int) := by omega
      have hT : Tab wr := ht.below hb
      clear hcell
      go_wp2_with fail
      refine (Tryd.strconv_Itoa (z k) (HZ.out k hlt).1 (HZ.out k hlt).2 _ hT).mono ?_
      rintro e w2 ⟨rfl, q, os, rfl⟩
      have hb2 := below_grow wr q os
      generalize Sort.grow (wr.drewN q) os = w2 at hb2 ⊢
      have hf2 := hf.carry (hb2.block _ hf.lt)
      have hb3 := hb.trans (hb2.mono hb.size)
      obtain ⟨⟨v2, hc2⟩, hfz⟩ := hf2.there k hlt
      have R : Hid (Fill 9 (w2.setCell ⟨w.heap.size, k, none⟩ (.string ⟨(Lib.itoa (z k)).toArray⟩)) w.heap.size len (k + 1) (fun i => .string ⟨(Lib.itoa (z i)).toArray⟩) ∧ Below w.heap.size w (w2.setCell ⟨w.heap.size, k, none⟩ (.string ⟨(Lib.itoa (z k)).toArray⟩))) :=
        ⟨hf2.put hlt, hb3.setCell (p := ⟨w.heap.size, k, none⟩) (Nat.le_refl _) _⟩
      clear hf hb hb2 hf2 hb3 hT hc1
      go_wp2
      go_roundw
      case rel => exact ⟨k + 1, by omega, by go_num, R.out.1, R.out.2⟩
      case measure => simp [intOf]; omega
    · obtain rfl : k = len := by omega
      have hlt := hf.lt
      have hcells : ∀ (j : Nat) x, (texts z k)[j]? = some x → wr.cell? ⟨w.heap.size, 0 + j, none⟩ = some (.string x) := by
        intro j x hx
        unfold texts at hx
        rw [List.getElem?_map] at hx
        by_cases hj : j < k
        · rw [List.getElem?_range hj] at hx
          simp at hx
          rw [Nat.zero_add, hf.at j hj hj, ← hx]
        · rw [List.getElem?_eq_none (by simpa using hj)] at hx
          cases hx
      have HJ := Tryd.strings_Join w.heap.size 0 k (texts z k) ⟨#[45]⟩ wr hcells hlt (by rw [texts_length]; omega) (by rw [texts_length]; exact Nat.le_refl _) (by rw [texts_data]; exact HL.out)
      rw [texts_length, texts_data] at HJ
      have HX : Hid (Calls Tryd.prog 10 #[.slice (some ⟨w.heap.size, 0, none⟩) k k, .string ⟨#[45]⟩] wr fun e w' => e = .returned (.string ⟨(text z k).toArray⟩) ∧ Below wr.heap.size wr w') := HJ
      clear hcells HJ hf
      go_wp2_with fail
      refine HX.out.mono ?_
      rintro e w2 ⟨rfl, hb2⟩
      have hb3 := hb.trans (hb2.mono hb.size)
      go_wp2
      go_ret
      exact ⟨rfl, hb3⟩
end Go.Proofs.Qxb6604679aDoor
