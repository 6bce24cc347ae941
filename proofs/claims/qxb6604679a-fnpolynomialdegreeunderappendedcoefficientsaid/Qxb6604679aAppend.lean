/-
  'Rows.FnPolynomialDegreeUnderAppendedCoefficientSaid': the walk.
-/
import Derived.Test.Qxb6604679aDegree
namespace Go.Proofs.Qxb6604679a
open Go.ChangeShapes Go.WideShapes Go.ChangeAt Go.RowKit

/-! ### The plain law -/
theorem nz_zero : nz 0 = false := by decide +kernel

theorem deg_congr (f g : Nat → Nat) (d : Nat) (h : ∀ i, i ≤ d → f i = g i) : deg f d = deg g d := by
  induction d with
  | zero => rfl
  | succ d ih =>
    show (if nz (f (d + 1)) then d + 1 else deg f d) = if nz (g (d + 1)) then d + 1 else deg g d
    rw [h (d + 1) (Nat.le_refl _), ih (fun i hi => h i (by omega))]

/-- p with more behind it. -/
def ext (f : Nat → Nat) (len c : Nat) (i : Nat) : Nat := if i < len then f i else c

theorem deg_ext_one (f : Nat → Nat) (len c : Nat) : deg (ext f len c) len = if nz c then len else deg f (len - 1) := by
  cases len with
  | zero => simp [deg]
  | succ n =>
    show (if nz (ext f (n + 1) c (n + 1)) then n + 1 else deg (ext f (n + 1) c) n) = _
    rw [show ext f (n + 1) c (n + 1) = c from if_neg (by omega), deg_congr (ext f (n + 1) c) f n (fun i hi => if_pos (by omega))]
    rfl

theorem deg_ext_two (f : Nat → Nat) (len : Nat) : deg (ext f len 0) (len + 1) = deg f (len - 1) := by
  show (if nz (ext f len 0 (len + 1)) then len + 1 else deg (ext f len 0) len) = _
  rw [show ext f len 0 (len + 1) = 0 from if_neg (by omega), nz_zero, if_neg (by decide), deg_ext_one, nz_zero, if_neg (by decide)]

/-! ### A new row of floats, filled from its head on -/
def Filled (w : World) (g n k : Nat) (f : Nat → Nat) : Prop :=
  ∃ xs, w.ownsRow g 37 1 (.slice (some ⟨g, 0, none⟩) n n) n xs ∧ (∀ i, i < k → xs[i]? = some (.float .f64 (f i))) ∧ ∀ i, k ≤ i → i < n → xs[i]? = some (.float .f64 0)

theorem Filled.made {w : World} {g n : Nat} (h : w.ownsRow g 37 1 (.slice (some ⟨g, 0, none⟩) n n) n (madeCells (Value.float .f64 0).cells (n * 1)).toList) (f : Nat → Nat) : Filled w g n 0 f := by
  refine ⟨_, h, fun i hi => absurd hi (Nat.not_lt_zero _), fun i _ hi => ?_⟩
  rw [show (Value.float .f64 0).cells = #[.float .f64 0] from rfl, toList_madeCells_one]
  rw [List.getElem?_replicate, if_pos (by omega)]

theorem Filled.there {w : World} {g n k : Nat} {f : Nat → Nat} (h : Filled w g n k f) (j : Nat) (hj : j < n) : (∃ v, w.cell? ⟨g, j, none⟩ = some v) ∧ w.frozen? ⟨g, j, none⟩ = false := by
  obtain ⟨xs, h, _, _⟩ := h
  have hl : xs.length = n * 1 := h.1
  exact ⟨⟨_, (h.cellAt j (by omega)).trans (List.getElem?_eq_getElem (by omega))⟩, h.frozenAt j⟩

theorem Filled.put {w : World} {g n k : Nat} {f : Nat → Nat} (h : Filled w g n k f) (hk : k < n) : Filled (w.setCell ⟨g, k, none⟩ (.float .f64 (f k))) g n (k + 1) f := by
  obtain ⟨xs, h, h1, h2⟩ := h
  have hl : xs.length = n * 1 := h.1
  refine ⟨_, (h.stored k (.float .f64 (f k))).1, fun i hi => ?_, fun i hi hn => ?_⟩
  · rw [List.getElem?_set]
    by_cases e : k = i
    · subst e; rw [if_pos rfl, if_pos (by omega)]
    · rw [if_neg e]; exact h1 i (by omega)
  · rw [List.getElem?_set, if_neg (by omega)]; exact h2 i (by omega) hn

theorem Filled.like {w : World} {g n k : Nat} {f f' : Nat → Nat} (h : Filled w g n k f) (e : ∀ i, i < k → f i = f' i) : Filled w g n k f' := by
  obtain ⟨xs, h, h1, h2⟩ := h
  exact ⟨xs, h, fun i hi => by rw [h1 i hi, e i hi], h2⟩

theorem Filled.frow {w : World} {g n k : Nat} {f : Nat → Nat} (h : Filled w g n k f) (hn : n ≤ maxLen) : FRow w (some ⟨g, 0, none⟩) n n (ext f k 0) := by
  obtain ⟨xs, h, h1, h2⟩ := h
  refine ⟨Nat.le_refl _, hn, (fun e => by cases e), fun i hi => ⟨g, 0, rfl, ?_⟩⟩
  rw [Nat.zero_add, h.cellAt i (by omega)]
  by_cases e : i < k
  · rw [h1 i e, show ext f k 0 i = f i from if_pos e]
  · rw [h2 i (by omega) hi, show ext f k 0 i = 0 from if_neg e]

theorem FRow.like {w : World} {a : Option Addr} {len cap : Nat} {f f' : Nat → Nat} (h : FRow w a len cap f) (e : ∀ i, i < len → f i = f' i) : FRow w a len cap f' :=
  ⟨h.1, h.2.1, h.2.2.1, fun i hi => by rw [← e i hi]; exact h.2.2.2 i hi⟩

theorem FRow.below {w w' : World} {a : Option Addr} {len cap : Nat} {f : Nat → Nat} (h : FRow w a len cap f) (hb : Below w.heap.size w w') : FRow w' a len cap f := by
  refine ⟨h.1, h.2.1, h.2.2.1, fun i hi => ?_⟩
  obtain ⟨b, off, e, hc⟩ := h.2.2.2 i hi
  exact ⟨b, off, e, (hb.cell (block_lt_of_cell hc)).trans hc⟩

/-! ### The walk -/
set_option maxHeartbeats 400000 in
theorem law5_long (a : Option Addr) (len cap c : Nat) (w : World) (hl : 131070 < len) (hm : len ≤ maxLen) :
    Calls Try.prog 5 #[.slice a len cap, .float .f64 c] w fun e w' => e = .returned (.bool true) ∧ Below w.heap.size w w' := by
  unfold maxLen at hm
  by_cases hb : 1048576 < len
  · go_enter Try.func5, Try.ntmps5
    go_wp2
    go_ret
    exact ⟨rfl, Below.refl _ _⟩
  · go_enter Try.func5, Try.ntmps5
    go_wp2
    go_ret
    exact ⟨rfl, Below.refl _ _⟩

attribute [local go_sem] run_store_float

set_option maxHeartbeats 1000000 in
theorem law5_short (a : Option Addr) (len cap c : Nat) (f : Nat → Nat) (w : World) (h : FRow w a len cap f) (hl : len ≤ 131070) :
    Calls Try.prog 5 #[.slice a len cap, .float .f64 c] w fun e w' => e = .returned (.bool true) ∧ Below w.heap.size w w' := by
  have HC : Hid (∀ w0, FRow w0 a len cap f → _) := fun w0 h0 => copy_any a len cap f w0 h0 (by omega)
  have HF : Hid (FRow w a len cap f) := h
  clear h
  obtain ⟨i0, hi, hz0, hz1, hz2⟩ := info_parts Try.info37
  go_enter Try.func5, Try.ntmps5
  go_wp2_with (first | (go_at_call 14; refine (HC.out _ HF.out).mono ?_) | go_in)
  rintro e w1 ⟨a', cap', rfl, hrow, hb⟩
  clear HC HF
  go_wp2_with (first | (go_at_call 15; refine (degree_any _ _ _ f _ hrow).mono ?_; rintro e w2 ⟨rfl, hw2⟩; subst w2) | (at_make; refine wpList_make_full _ rfl _ _ 34 rfl w1.heap.size 37 i0 (.float .f64 0) 1 Try.underlying34 hi hz0 hz1 .i64 .i64 _ _ (len + 1) rfl rfl (by omega) (by omega) (by rw [hz2]; omega) (by unfold maxLen; omega) (Nat.le_refl _) ?_; intro w2 hown hgrow))
  have hf0 : Filled w2 w1.heap.size (len + 1) 0 f := .made hown f
  have hb0 : Below w1.heap.size w1 w2 := (Below.refl _ _).grown hgrow (Nat.le_refl _) (fun k e => by cases e)
  clear hown hgrow
  go_loopw [28] (fun t wr => ∃ k : Nat, k ≤ len ∧ t = .int .i64 k ∧ Filled wr w1.heap.size (len + 1) k f ∧ Below w1.heap.size w1 wr) (fun t _ => len - (intOf t).toNat)
  case atStart => exact ⟨0, Nat.zero_le _, rfl, hf0, hb0⟩
  case round =>
    clear hf0 hb0
    obtain ⟨k, hk, rfl, hf, hb1⟩ := hrel
    have hrow1 := hrow.below hb1
    by_cases hlt : k < len
    · obtain ⟨b, off, rfl, hcell⟩ := hrow1.2.2.2 k hlt
      obtain ⟨⟨v2, hc2⟩, hfz⟩ := hf.there k (by omega)
      have hlt' : (k : Int) < (len : Int) := by omega
      have R : Hid (_ ∧ _) := ⟨hf.put (by omega), hb1.setCell (p := ⟨w1.heap.size, k, none⟩) (Nat.le_refl _) (.float .f64 (f k))⟩
      clear hf hb1 hrow1 hi hz0 hz1 hz2
      go_wp2
      go_roundw
      case rel => exact ⟨k + 1, by omega, by go_num, R.out.1, R.out.2⟩
      case measure => simp [intOf]; omega
    · obtain rfl : k = len := by omega
      have hq : Filled wr w1.heap.size (k + 1) k (ext f k c) := hf.like (fun i hi => (if_pos hi).symm)
      obtain ⟨⟨v2, hc2⟩, hfz⟩ := hf.there k (by omega)
      have hq1 := hq.put (by omega)
      rw [show ext f k c k = c from if_neg (by omega)] at hq1
      have hb3 : Below w1.heap.size w1 (wr.setCell ⟨w1.heap.size, k, none⟩ (.float .f64 c)) := hb1.setCell (p := ⟨w1.heap.size, k, none⟩) (Nat.le_refl _) (.float .f64 c)
      have hsz : w1.heap.size ≤ (wr.setCell ⟨w1.heap.size, k, none⟩ (.float .f64 c)).heap.size := hb3.size
      generalize hw3 : wr.setCell ⟨w1.heap.size, k, none⟩ (.float .f64 c) = w3 at hq1 hb3 hsz
      have HW : Hid (wr.setCell ⟨w1.heap.size, k, none⟩ (.float .f64 c) = w3) := hw3
      clear hw3 hf hb1 hrow1 hq
      go_wp2_with (at_make; rw [HW.out]; refine wpList_make_full _ rfl _ _ 34 rfl w3.heap.size 37 i0 (.float .f64 0) 1 Try.underlying34 hi hz0 hz1 .i64 .i64 _ _ (k + 2) rfl rfl (by omega) (by omega) (by rw [hz2]; omega) (by unfold maxLen; omega) (Nat.le_refl _) ?_; intro w4 hown hgrow)
      have hf0 : Filled w4 w3.heap.size (k + 2) 0 f := .made hown f
      have hb0 : Below w3.heap.size w3 w4 := (Below.refl _ _).grown hgrow (Nat.le_refl _) (fun k e => by cases e)
      clear hown hgrow hc2 hfz hi hz0 hz1 hz2 HW
      go_loopw [50] (fun t wr => ∃ j : Nat, j ≤ k ∧ t = .int .i64 j ∧ Filled wr w3.heap.size (k + 2) j f ∧ Below w3.heap.size w3 wr) (fun t _ => k - (intOf t).toNat)
      case atStart => exact ⟨0, Nat.zero_le _, rfl, hf0, hb0⟩
      case round =>
        clear hf0 hb0
        obtain ⟨j, hj, rfl, hf, hb4⟩ := hrel
        have hrow4 := (hrow.below hb3).below hb4
        by_cases hlt : j < k
        · obtain ⟨b, off, rfl, hcell⟩ := hrow4.2.2.2 j hlt
          obtain ⟨⟨v2, hc2⟩, hfz⟩ := hf.there j (by omega)
          have hlt' : (j : Int) < (k : Int) := by omega
          have R : Hid (_ ∧ _) := ⟨hf.put (by omega), hb4.setCell (p := ⟨w3.heap.size, j, none⟩) (Nat.le_refl _) (.float .f64 (f j))⟩
          clear hf hb4 hrow4
          go_wp2
          go_roundw
          case rel => exact ⟨j + 1, by omega, by go_num, R.out.1, R.out.2⟩
          case measure => simp [intOf]; omega
        · obtain rfl : j = k := by omega
          have hQ : Hid (FRow wr (some ⟨w1.heap.size, 0, none⟩) (j + 1) (j + 1) (ext f j c)) := ((hq1.frow (by unfold maxLen; omega)).like (fun i hi => if_pos hi)).below hb4
          have hZ : Hid (FRow wr (some ⟨w3.heap.size, 0, none⟩) (j + 2) (j + 2) (ext f j 0)) := hf.frow (by unfold maxLen; omega)
          have hB : Hid (Below w.heap.size w wr) := (hb.trans (hb3.mono hb.size)).trans (hb4.mono (Nat.le_trans hb.size hsz))
          clear hq1 hf hb hb3 hb4 hrow hrow4 hsz
          have e2 : Hid (deg (ext f j 0) (j + 2 - 1) = deg f (j - 1)) := deg_ext_two f j
          by_cases hz : nz c = true
          · have hz' : (FloatKind.f64.format.order c 0 != some .eq) = true := hz
            have e1 : Hid (deg (ext f j c) (j + 1 - 1) = j) := by unfold Hid; rw [Nat.add_sub_cancel, deg_ext_one, if_pos hz]
            go_wp2_with fail
            refine (degree_any _ _ _ _ _ hQ.out).mono ?_
            rintro e w5 ⟨rfl, hw5⟩
            subst w5
            rw [e1.out]
            go_wp2_with fail
            refine (degree_any _ _ _ _ _ hZ.out).mono ?_
            rintro e w5 ⟨rfl, hw5⟩
            subst w5
            rw [e2.out]
            go_wp2
            go_ret
            exact ⟨rfl, hB.out⟩
          · have hz' : (FloatKind.f64.format.order c 0 != some .eq) = false := by simpa [nz] using hz
            have e1 : Hid (deg (ext f j c) (j + 1 - 1) = deg f (j - 1)) := by unfold Hid; rw [Nat.add_sub_cancel, deg_ext_one, if_neg hz]
            go_wp2_with fail
            refine (degree_any _ _ _ _ _ hQ.out).mono ?_
            rintro e w5 ⟨rfl, hw5⟩
            subst w5
            rw [e1.out]
            go_wp2_with fail
            refine (degree_any _ _ _ _ _ hZ.out).mono ?_
            rintro e w5 ⟨rfl, hw5⟩
            subst w5
            rw [e2.out]
            go_wp2
            go_ret
            exact ⟨rfl, hB.out⟩
end Go.Proofs.Qxb6604679a
