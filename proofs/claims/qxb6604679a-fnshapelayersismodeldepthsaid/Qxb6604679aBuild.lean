/-
  zzBuildModelB1 (10).
-/
import Derived.Test.Qxb6604679aCopyW
namespace Go.Proofs.Qxb6604679a
open Go.ChangeShapes Go.WideShapes Go.ChangeAt Go.RowKit

theorem Try.info42 : (Try.prog.info? 42).map (fun i => (i.zero, i.size, i.bytes)) = some (some (.agg #[.slice none 0 0]), 1, 24) := by kernel_rfl

set_option maxHeartbeats 1000000 in
theorem build_any (N0 len : Nat) (w : World) (h : Half 40 w N0 len len (Good N0 w)) (hl : len ≤ 131072) :
    Calls Try.prog 10 #[.slice (some ⟨N0, 0, none⟩) len len] w fun e w' => e = .returned (.agg #[.slice (some ⟨w.heap.size + 1, 0, none⟩) len len]) ∧ Half 42 w' (w.heap.size + 1) len len (Good N0 w) ∧ Below w.heap.size w w' := by
  obtain ⟨i0, hi, hz0, hz1, hz2⟩ := info_parts Try.info42
  have H : Hid (Half 40 w N0 len len (Good N0 w)) := h
  clear h
  go_enter Try.func10, Try.ntmps10
  go_wp2_with (at_make; refine wpList_make_full _ rfl _ _ 28 rfl (w.heap.size + 1) 42 i0 (.agg #[.slice none 0 0]) 1 Try.underlying28 hi hz0 hz1 .i64 .i64 _ _ len rfl rfl (by simp) (by simp) (by rw [hz2]; omega) (by unfold maxLen; omega) (by simp) ?_; intro w1 hown hgrow)
  rw [World.size_alloc] at hown
  have hf0 : Half 42 w1 (w.heap.size + 1) len 0 (Good N0 w) := ⟨_, hown, fun i hi => absurd hi (Nat.not_lt_zero _)⟩
  have hb0 : Below (w.heap.size + 1) (w.alloc (.cells #[.slice none 0 0] 30)) w1 := (Below.refl _ _).grown hgrow (by simp) (fun k e => by cases e)
  clear hown hgrow hi hz0 hz1 hz2
  go_loopw [10] (fun t wr => ∃ k : Nat, k ≤ len ∧ t = .int .i64 k ∧ Half 42 wr (w.heap.size + 1) len k (Good N0 w) ∧ Below (w.heap.size + 1) (w.alloc (.cells #[.slice none 0 0] 30)) wr) (fun t _ => len - (intOf t).toNat)
  case atStart => exact ⟨0, Nat.zero_le _, rfl, hf0, hb0⟩
  case round =>
    clear hf0 hb0
    obtain ⟨k, hk, rfl, hf, hb⟩ := hrel
    have hbl : N0 < w.heap.size := H.out.lt
    have hbw : Below w.heap.size w wr := ((Below.refl _ _).alloc (Nat.le_refl _) _).trans (hb.mono (by omega))
    by_cases hlt : k < len
    · obtain ⟨v, hv, hg⟩ := H.out.at k hlt hlt
      obtain ⟨⟨v2, g4⟩, g5⟩ := hf.there k hlt
      have g1 : wr.cell? ⟨N0, k, none⟩ = some v := (hbw.cell (p := ⟨N0, k, none⟩) hbl).trans hv
      have HG : Hid (Good N0 w v) := hg
      have HP : Hid (Half 42 (wr.setCell ⟨w.heap.size + 1, k, none⟩ v) (w.heap.size + 1) len (k + 1) (Good N0 w) ∧ Below (w.heap.size + 1) (w.alloc (.cells #[.slice none 0 0] 30)) (wr.setCell ⟨w.heap.size + 1, k, none⟩ v)) := ⟨hf.put hlt v hg, hb.setCell (p := ⟨w.heap.size + 1, k, none⟩) (Nat.le_refl _) _⟩
      obtain ⟨g, n, a', n', c', e, _⟩ := hg
      subst e
      have hlt' : (k : Int) < (len : Int) := by omega
      clear hf hb hbw hv
      go_wp2
      go_roundw
      case rel => exact ⟨k + 1, by omega, by go_num, HP.out.1, HP.out.2⟩
      case measure => simp [intOf]; omega
    · obtain rfl : k = len := by omega
      have hh : wr.heap[w.heap.size]? = some (.cells #[.slice none 0 0] 30 (0, 0)) := (hb.block _ (by omega)).trans (heap_alloc_new _ _)
      have g1 : wr.cell? ⟨w.heap.size, 0, none⟩ = some (.slice none 0 0) := cell_of_row _ _ 0 _ _ _ hh
      have g2 : wr.frozen? ⟨w.heap.size, 0, none⟩ = false := frozen_of_row _ _ 0 _ _ hh
      have g3 : (wr.setCell ⟨w.heap.size, 0, none⟩ (.slice (some ⟨w.heap.size + 1, 0, none⟩) k k)).cell? ⟨w.heap.size, 0, none⟩ = some (.slice (some ⟨w.heap.size + 1, 0, none⟩) k k) :=
        cell_of_row _ _ 0 _ _ _ (heap_setCell_same wr w.heap.size 0 _ _ _ hh)
      have HP : Hid (Half 42 (wr.setCell ⟨w.heap.size, 0, none⟩ (.slice (some ⟨w.heap.size + 1, 0, none⟩) k k)) (w.heap.size + 1) k k (Good N0 w) ∧ Below w.heap.size w (wr.setCell ⟨w.heap.size, 0, none⟩ (.slice (some ⟨w.heap.size + 1, 0, none⟩) k k))) :=
        ⟨hf.carry (Below.heap_setCell _ _ _ _ (by show w.heap.size + 1 ≠ w.heap.size; omega)), hbw.setCell (p := ⟨w.heap.size, 0, none⟩) (Nat.le_refl _) _⟩
      clear hf hb hbw hh
      go_wp2
      exact bodyPost_ret (v := .agg #[.slice (some ⟨w.heap.size + 1, 0, none⟩) k k]) (by simp [results, Try.results10, go_sem, g3]) rfl ⟨rfl, HP.out.1, HP.out.2⟩
end Go.Proofs.Qxb6604679a
