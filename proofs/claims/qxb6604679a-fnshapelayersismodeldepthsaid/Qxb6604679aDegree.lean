/-
  'Rows.FnPolynomialDegreeIsLastNonZeroPowerSaid'.
-/
import Derived.Test.Qxb6604679aFloats
import Derived.Deep.Slices
import Derived.ChangeOld
import Derived.Below
import Derived.Carry
namespace Go.Proofs.Qxb6604679a
open Go.ChangeShapes Go.WideShapes Go.ChangeAt Go.RowKit

theorem Try.own : ownKnob Try.prog.godebug = none := by kernel_rfl
theorem Try.laidOut : laidOutB Try.prog = true := by kernel_rfl
theorem Try.cells37 : Try.prog.cellsOf 37 = 1 := by kernel_rfl

theorem trod_float {H : Type} {enc : TypeId × Value → H} {P : Program} {w : World} {base : Nat} {spare : Nat → Bool} {held : Bool} {fuel : Nat} {t : TypeId} {cs : List Value} {x : DataW H × List MemPlace} {k : FloatKind}
    (ht : P.underlying t = some (.float k)) (h : DataW.trod enc P w base spare held fuel t cs = some x) : ∃ n, cs = [.float k n] ∧ x = (.lit (.float k n), []) ∧ (Lit.float k n).wf = true := by
  cases fuel with
  | zero => simp [DataW.trod] at h
  | succ n =>
    unfold DataW.trod at h
    rw [ht] at h
    split at h <;> simp_all

/-- A slice of floats that can be read is what the walks ask of it. -/
theorem frow_of_trod {H : Type} {enc : TypeId × Value → H} {w : World} {base : Nat} {spare : Nat → Bool} {held : Bool} {fuel : Nat} {a : Option Addr} {len cap : Nat} {x : DataW H × List MemPlace}
    (h : DataW.trod enc Try.prog w base spare held fuel 34 [.slice a len cap] = some x) : ∃ f, FRow w a len cap f := by
  rcases Deep.open_slice1 Try.underlying34 Try.cells37 h with ⟨hcs, _⟩ | ⟨a', len', cap', m, n, V, D, Pl, hcs, _, hl, hm, hmm, _, hV⟩
  · simp at hcs
    obtain ⟨rfl, rfl, rfl⟩ := hcs
    exact ⟨fun _ => 0, Nat.le_refl _, Nat.zero_le _, fun _ => ⟨rfl, rfl⟩, fun i hi => absurd hi (Nat.not_lt_zero _)⟩
  · simp at hcs
    obtain ⟨rfl, rfl, rfl⟩ := hcs
    have hle : len ≤ m := by subst hmm; split <;> omega
    obtain ⟨f, hf⟩ := Deep.choose_lt (n := len) (p := fun i (y : Nat) => V i = .float .f64 y) (fun i hi => by
      obtain ⟨y, e, _, _⟩ := trod_float Try.underlying37 (hV i (by omega)).2
      exact ⟨y, by simpa using e⟩)
    refine ⟨f, hl, hm, (fun e => by cases e), fun i hi => ?_⟩
    have hc := (hV i (by omega)).1
    rw [hf i hi] at hc
    obtain ⟨b, off, spot⟩ := a'
    have hspot : spot = none := by simpa [Addr.add] using World.cell?_spot (hV 0 (by omega)).1
    subst hspot
    exact ⟨b, off, rfl, by rw [← add_plain]; exact hc⟩

set_option maxHeartbeats 400000 in
theorem law4_long (a : Option Addr) (len cap : Nat) (w : World) (hl : 131072 < len) (hm : len ≤ maxLen) :
    Calls Try.prog 4 #[.slice a len cap] w fun e w' => e = .returned (.bool true) ∧ Below w.heap.size w w' := by
  unfold maxLen at hm
  by_cases hb : 1048576 < len
  · go_enter Try.func4, Try.ntmps4
    go_wp2
    go_ret
    exact ⟨rfl, Below.refl _ _⟩
  · go_enter Try.func4, Try.ntmps4
    go_wp2
    go_ret
    exact ⟨rfl, Below.refl _ _⟩

set_option maxHeartbeats 400000 in
theorem law4_short (a : Option Addr) (len cap : Nat) (f : Nat → Nat) (w : World) (h : FRow w a len cap f) (hl : len ≤ 131072) :
    Calls Try.prog 4 #[.slice a len cap] w fun e w' => e = .returned (.bool true) ∧ Below w.heap.size w w' := by
  have HC : Hid (∀ w0, FRow w0 a len cap f → _) := fun w0 h0 => copy_any a len cap f w0 h0 (by omega)
  have HF : Hid (FRow w a len cap f) := h
  clear h
  go_enter Try.func4, Try.ntmps4
  go_wp2_with (first | (go_at_call 14; refine (HC.out _ HF.out).mono ?_) | go_in)
  rintro e w1 ⟨a', cap', rfl, hrow, hb⟩
  obtain ⟨hlc, hcm, hnil, hc⟩ := hrow
  have H : Hid (∀ i, i < len → ∃ b off, a' = some ⟨b, off, none⟩ ∧ w1.cell? ⟨b, off + i, none⟩ = some (.float .f64 (f i))) := hc
  have HR : Hid (FRow w1 a' len cap' f) := ⟨hlc, hcm, hnil, hc⟩
  clear hc HC HF hnil
  unfold maxLen at hcm
  go_wp2
  go_loop [3, 4] (fun t i => ∃ k : Nat, (k = 0 ∨ k < len) ∧ i = .int .i64 ((k : Int) + 1) ∧ t = .int .i64 (deg f k)) (fun _ i => len - (intOf i).toNat)
  case atStart => exact ⟨0, .inl rfl, rfl, rfl⟩
  case round =>
    obtain ⟨k, hk, rfl, rfl⟩ := hrel
    by_cases hlt : k + 1 < len
    · obtain ⟨b, off, rfl, hcell⟩ := H.out (k + 1) (by omega)
      have hlt' : (k : Int) + 1 < (len : Int) := by omega
      by_cases hz : nz (f (k + 1)) = true
      · have hz' : (FloatKind.f64.format.order (f (k + 1)) 0 != some .eq) = true := hz
        have hfin : Hid (deg f (k + 1) = k + 1) := by unfold Hid deg; rw [if_pos hz]
        go_wp2
        go_round
        case rel => exact ⟨k + 1, by omega, by go_num, by rw [hfin.out]; go_num⟩
        case measure => simp [intOf]; omega
      · have hz' : (FloatKind.f64.format.order (f (k + 1)) 0 != some .eq) = false := by simpa [nz] using hz
        have hfin : Hid (deg f (k + 1) = deg f k) := by unfold Hid; rw [show deg f (k + 1) = if nz (f (k + 1)) then k + 1 else deg f k from rfl, if_neg hz]
        go_wp2
        go_round
        case rel => exact ⟨k + 1, by omega, by go_num, by rw [hfin.out]⟩
        case measure => simp [intOf]; omega
    · have hfin : Hid (deg f k = deg f (len - 1)) := by
        unfold Hid
        rcases hk with rfl | hk
        · rw [show len - 1 = 0 from by omega]
        · rw [show len - 1 = k from by omega]
      go_wp2_with (go_at_call 15; refine (degree_any _ _ _ f _ HR.out).mono ?_; rintro e w2 ⟨rfl, rfl⟩)
      go_ret
      exact ⟨by rw [hfin.out]; simp, hb⟩
end Go.Proofs.Qxb6604679a
