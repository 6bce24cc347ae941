import Derived.Test.Qxb6604679aRows
import Derived.WalkKit
import Derived.ProofKit
import Derived.WalkLawsBesides
import Derived.WalkSpells
namespace Go.Proofs.Qxb6604679a
open Go.ChangeShapes Go.WideShapes Go.ChangeAt Go.RowKit

/-- The float is not zero (a NaN is not zero either). -/
def nz (x : Nat) : Bool := FloatKind.f64.format.order x 0 != some .eq

/-- The last index at or below d, at or above 1, whose coefficient is not zero; else 0. -/
def deg (f : Nat → Nat) : Nat → Nat
  | 0 => 0
  | d + 1 => if nz (f (d + 1)) then d + 1 else deg f d

/-- What the walks ask of a slice of floats: the cells of its elements hold the floats f 0, f 1, .. -/
def FRow (w : World) (a : Option Addr) (len cap : Nat) (f : Nat → Nat) : Prop :=
  len ≤ cap ∧ cap ≤ maxLen ∧ (a = none → len = 0 ∧ cap = 0) ∧ ∀ i, i < len → ∃ b off, a = some ⟨b, off, none⟩ ∧ w.cell? ⟨b, off + i, none⟩ = some (.float .f64 (f i))

theorem deg_le (f : Nat → Nat) (d : Nat) : deg f d ≤ d := by
  induction d with
  | zero => exact Nat.le_refl _
  | succ d ih => unfold deg; split <;> omega

theorem ret_int {k : IntKind} {a b : Int} (h : a = b) : Ending.returned (.int k a) = .returned (.int k b) := by rw [h]

set_option maxHeartbeats 400000 in
theorem degree_any (a : Option Addr) (len cap : Nat) (f : Nat → Nat) (w : World) (h : FRow w a len cap f) :
    Calls Try.prog 15 #[.slice a len cap] w fun e w' => e = .returned (.int .i64 (deg f (len - 1))) ∧ w' = w := by
  obtain ⟨hlc, hcm, _, hc⟩ := h
  have H : Hid (∀ i, i < len → ∃ b off, a = some ⟨b, off, none⟩ ∧ w.cell? ⟨b, off + i, none⟩ = some (.float .f64 (f i))) := hc
  clear hc
  unfold maxLen at hcm
  go_enter Try.func15, Try.ntmps15
  go_wp2
  go_loop [3] (fun t => ∃ d : Int, -1 ≤ d ∧ d ≤ (len : Int) - 1 ∧ t = .int .i64 d ∧ Hid (deg f d.toNat = deg f (len - 1))) (fun t => (intOf t + 1).toNat)
  case atStart => exact ⟨(len : Int) - 1, by omega, by omega, rfl, by rw [show ((len : Int) - 1).toNat = len - 1 from by omega]; exact rfl⟩
  case round =>
    obtain ⟨d, hd1, hd2, rfl, HD⟩ := hrel
    by_cases hp : 0 < d
    · obtain ⟨k, rfl⟩ : ∃ k : Nat, d = (k : Int) + 1 := ⟨(d - 1).toNat, by omega⟩
      obtain ⟨b, off, rfl, hcell⟩ := H.out (k + 1) (by omega)
      have hlt : (k : Int) + 1 < (len : Int) := by omega
      by_cases hz : nz (f (k + 1)) = true
      · have hz' : (FloatKind.f64.format.order (f (k + 1)) 0 != some .eq) = true := hz
        have hfin : Hid (deg f (len - 1) = k + 1) := by
          rw [← HD.out, show ((k : Int) + 1).toNat = k + 1 from by omega]; unfold Hid deg; rw [if_pos hz]
        go_wp2
        go_ret
        exact ⟨ret_int (by rw [hfin.out]; rfl), rfl⟩
      · have hz' : (FloatKind.f64.format.order (f (k + 1)) 0 != some .eq) = false := by simpa [nz] using hz
        have hfin : Hid (deg f k = deg f (len - 1)) := by
          rw [← HD.out, show ((k : Int) + 1).toNat = k + 1 from by omega]; unfold Hid; rw [show deg f (k + 1) = if nz (f (k + 1)) then k + 1 else deg f k from rfl, if_neg hz]
        go_wp2
        go_round
        case rel => exact ⟨k, by omega, by omega, by go_num, by rw [show (k : Int).toNat = k from by omega]; exact hfin⟩
        case measure => simp [intOf]; omega
    · have hfin : Hid (deg f (len - 1) = 0) := by
        rw [← HD.out, show d.toNat = 0 from by omega]; rfl
      go_wp2
      go_ret
      exact ⟨ret_int (by rw [hfin.out]; rfl), rfl⟩

/-- A float is stored into one cell (the kit's walk has this law for integers, bools, pointers, slices and strings). -/
theorem run_store_float (P : Program) (w : World) (a : Addr) (m : Mode) (k : FloatKind) (x : Nat) : (store a (.float k x) m).run P w = stored P w a (.float k x) m := run_store P w a _ m rfl
attribute [local go_sem] run_store_float

theorem Try.info37 : (Try.prog.info? 37).map (fun i => (i.zero, i.size, i.bytes)) = some (some (.float .f64 0), 1, 8) := by kernel_rfl

theorem copy_nil (w : World) : Calls Try.prog 14 #[.slice none 0 0] w fun e w' => e = .returned (.slice none 0 0) ∧ w' = w := by
  have q := fun w => Lib.run_eql_slice_nil (P := Try.prog) w 34 37 none 0 0 0 0 Try.underlying34
  go_enter Try.func14, Try.ntmps14
  go_wp2
  go_ret
  exact ⟨rfl, rfl⟩

set_option maxHeartbeats 400000 in
theorem copy_some (x : Addr) (len cap : Nat) (f : Nat → Nat) (w : World) (h : FRow w (some x) len cap f) (hl : len * 8 ≤ 140737488355328) :
    Calls Try.prog 14 #[.slice (some x) len cap] w fun e w' => e = .returned (.slice (some ⟨w.heap.size, 0, none⟩) len len) ∧ FRow w' (some ⟨w.heap.size, 0, none⟩) len len f ∧ Below w.heap.size w w' := by
  obtain ⟨hlc, hcm, _, hc⟩ := h
  have H : Hid (∀ i, i < len → ∃ b off, some x = some ⟨b, off, none⟩ ∧ w.cell? ⟨b, off + i, none⟩ = some (.float .f64 (f i))) := hc
  clear hc
  unfold maxLen at hcm
  have q := fun w => Lib.run_eql_slice_nil (P := Try.prog) w 34 37 (some x) len cap 0 0 Try.underlying34
  obtain ⟨i0, hi, hz0, hz1, hz2⟩ := info_parts Try.info37
  go_enter Try.func14, Try.ntmps14
  go_wp2_with (at_make; refine wpList_make_full _ rfl _ _ 34 rfl w.heap.size 37 i0 (.float .f64 0) 1 Try.underlying34 hi hz0 hz1 .i64 .i64 _ _ len rfl rfl (by simp) (by simp) (by rw [hz2]; omega) (by unfold maxLen; omega) (Nat.le_refl _) ?_)
  intro w1 hown hgrow
  have hb1 : Below w.heap.size w w1 := (Below.refl _ _).grown hgrow (Nat.le_refl _) (fun k e => by cases e)
  clear hgrow hi hz0 hz1 hz2 q
  go_wp2
  go_loopw [12] (fun t wr => ∃ k xs, k ≤ len ∧ t = .int .i64 (k : Nat) ∧ wr.ownsRow w.heap.size 37 1 (.slice (some ⟨w.heap.size, 0, none⟩) len len) len xs ∧ Hid (∀ i, i < k → xs[i]? = some (.float .f64 (f i))) ∧ Below w.heap.size w wr) (fun t _ => len - (intOf t).toNat)
  case atStart => exact ⟨0, _, Nat.zero_le _, rfl, hown, fun i hi => absurd hi (by omega), hb1⟩
  case round =>
    clear hown hb1
    obtain ⟨k, xs, hk, rfl, hown, HX, hb⟩ := hrel
    by_cases hlt : k < len
    · obtain ⟨b, off, e, hcell⟩ := H.out k hlt
      obtain rfl : x = ⟨b, off, none⟩ := by simpa using e
      have hbl := block_lt_of_cell hcell
      have hc1 : wr.cell? ⟨b, off + k, none⟩ = some (.float .f64 (f k)) := (hb.cell hbl).trans hcell
      have hfz := hown.frozenAt k
      have hlx : xs.length = len := by have := hown.1; omega
      have hc2 : ∃ v, wr.cell? ⟨w.heap.size, k, none⟩ = some v := ⟨_, (hown.cellAt k (by omega)).trans (List.getElem?_eq_getElem (by omega))⟩
      obtain ⟨v2, hc2⟩ := hc2
      have hown' := (hown.stored k (.float .f64 (f k))).1
      have hb' := hb.setCell (p := ⟨w.heap.size, k, none⟩) (Nat.le_refl _) (.float .f64 (f k))
      have HX' : Hid (∀ i, i < k + 1 → (xs.set k (.float .f64 (f k)))[i]? = some (.float .f64 (f i))) := by
        intro i hi
        rw [List.getElem?_set]
        by_cases hik : k = i
        · subst hik; rw [if_pos rfl, if_pos (by omega)]
        · rw [if_neg hik]; exact HX.out i (by omega)
      have R : Hid (_ ∧ _ ∧ _) := ⟨hown', HX', hb'⟩
      clear hown' HX' hb' hown HX hb e hcell
      go_wp2
      go_roundw
      case rel => exact ⟨k + 1, _, by omega, by go_num, R.out.1, R.out.2.1, R.out.2.2⟩
      case measure => simp [intOf]; omega
    · obtain rfl : k = len := by omega
      have R : Hid (∀ i, i < k → wr.cell? ⟨w.heap.size, 0 + i, none⟩ = some (.float .f64 (f i))) := by
        intro i hi
        rw [Nat.zero_add, hown.cellAt i (by omega)]
        exact HX.out i hi
      clear hown HX
      go_wp2
      go_ret
      exact ⟨rfl, ⟨Nat.le_refl _, by unfold maxLen; omega, (fun e => by cases e), fun i hi => ⟨_, _, rfl, R.out i hi⟩⟩, hb⟩

/-- The copy: the same floats; a nil slice stays nil; nothing that was there has turned. -/
theorem copy_any (a : Option Addr) (len cap : Nat) (f : Nat → Nat) (w : World) (h : FRow w a len cap f) (hl : len * 8 ≤ 140737488355328) :
    Calls Try.prog 14 #[.slice a len cap] w fun e w' => ∃ a' cap', e = .returned (.slice a' len cap') ∧ FRow w' a' len cap' f ∧ Below w.heap.size w w' := by
  cases a with
  | none =>
    obtain ⟨rfl, rfl⟩ := h.2.2.1 rfl
    refine (copy_nil w).mono ?_
    rintro e w' ⟨rfl, rfl⟩
    exact ⟨none, 0, rfl, h, Below.refl _ _⟩
  | some x =>
    refine (copy_some x len cap f w h hl).mono ?_
    rintro e w' ⟨rfl, h1, h2⟩
    exact ⟨_, _, rfl, h1, h2⟩
end Go.Proofs.Qxb6604679a
