/-
  (Layer).Outputs (18), (Model).Inputs (17), (Model).Shape (11).
-/
import Derived.Test.Qxb6604679aBuild
namespace Go.Proofs.Qxb6604679a
open Go.ChangeShapes Go.WideShapes Go.ChangeAt Go.RowKit

set_option maxHeartbeats 1000000 in
theorem outputs_any (N0 : Nat) (v : Value) (w : World) (h : Good N0 w v) :
    Calls Try.prog 18 #[.agg #[v]] w fun e w' => (∃ n' : Nat, e = .returned (.int .i64 n')) ∧ Below w.heap.size w w' := by
  obtain ⟨g, n, a', n', c', rfl, h1, h2, h3, h4, h5⟩ := h
  have hg : g < w.heap.size := block_lt_of_cell h4
  have h2' : (0 : Int) < (n : Int) := by omega
  have h4' : (w.alloc (.cells #[.slice (some ⟨g, 0, none⟩) n n] 42)).cell? ⟨g, 0, none⟩ = some (.slice a' n' c') := by
    rw [← h4]; exact World.cell?_of_block (w := w) (Below.heap_alloc _ _ _ hg)
  go_enter Try.func18, Try.ntmps18
  go_wp2
  go_ret
  exact ⟨⟨n', rfl⟩, (Below.refl _ _).alloc (Nat.le_refl _) _⟩

set_option maxHeartbeats 1000000 in
theorem inputs_any (N0 g len : Nat) (w : World) (hl : 0 < len) (hm : len ≤ 131072) (h : Half 42 w g len len (Good N0 w)) :
    Calls Try.prog 17 #[.agg #[.slice (some ⟨g, 0, none⟩) len len]] w fun e w' => (∃ n' : Nat, e = .returned (.int .i64 n')) ∧ Below w.heap.size w w' := by
  obtain ⟨v, hv, g2, n, a', n', c', rfl, h1, h2, h3, h4, h5⟩ := h.at 0 hl hl
  have hg : g < w.heap.size := h.lt
  have hl' : (0 : Int) < (len : Int) := by omega
  have hv' : (w.alloc (.cells #[.slice (some ⟨g, 0, none⟩) len len] 30)).cell? ⟨g, 0, none⟩ = some (.slice (some ⟨g2, 0, none⟩) n n) := by
    rw [← hv]; exact World.cell?_of_block (w := w) (Below.heap_alloc _ _ _ hg)
  clear h
  go_enter Try.func17, Try.ntmps17
  go_wp2
  go_ret
  exact ⟨⟨n, rfl⟩, ((Below.refl _ _).alloc (Nat.le_refl _) _).alloc (by simp) _⟩

theorem Try.info3 : (Try.prog.info? 3).map (fun i => (i.zero, i.size, i.bytes)) = some (some (.int .i64 0), 1, 8) := by kernel_rfl

theorem ownsRow_below {w w' : World} {base : Nat} {e : TypeId} {size : Nat} {v : Value} {n : Nat} {xs : List Value} (h : w.ownsRow base e size v n xs) (hb : Below w.heap.size w w') : w'.ownsRow base e size v n xs := by
  obtain ⟨h0, h⟩ := h
  refine ⟨h0, ?_⟩
  rcases h with h | ⟨g, cap, cur, hv, hg, hh, r⟩
  · exact .inl h
  · exact .inr ⟨g, cap, cur, hv, hg, by rw [hb.block g (Array.getElem?_eq_some_iff.1 hh).1]; exact hh, r⟩

theorem ownBlock_ge {w : World} {base : Nat} {e : TypeId} {size : Nat} {v : Value} {n : Nat} {xs : List Value} (h : w.ownsRow base e size v n xs) (k : Nat) (hk : v.ownBlock = some k) : base ≤ k := by
  rcases h.2 with ⟨rfl, _⟩ | ⟨g, cap, cur, rfl, hg, _⟩
  · cases hk
  · simp [Value.ownBlock] at hk
    omega

set_option maxHeartbeats 1000000 in
theorem shape_any (N0 g len : Nat) (w : World) (hl : 0 < len) (hm : len ≤ 131072) (h : Half 42 w g len len (Good N0 w)) :
    Calls Try.prog 11 #[.agg #[.slice (some ⟨g, 0, none⟩) len len]] w fun e w' => (∃ g' c', e = .returned (.slice (some ⟨g', 0, none⟩) (len + 1) c')) ∧ Below w.heap.size w w' := by
  obtain ⟨i0, hi, hz0, hz1, hz2⟩ := info_parts Try.info3
  have H : Hid (Half 42 w g len len (Good N0 w)) := h
  have hg : g < w.heap.size := h.lt
  clear h
  go_enter Try.func11, Try.ntmps11
  go_wp2_with fail
  have hb1 : Below w.heap.size w (w.alloc (.cells #[.slice (some ⟨g, 0, none⟩) len len] 30)) := (Below.refl _ _).alloc (Nat.le_refl _) _
  refine (inputs_any N0 g len _ hl hm ((H.out.carry (hb1.block _ hg)).like fun v hv => hv.carry fun g' _ h' => hb1.block g' h')).mono ?_
  rintro e w1 ⟨⟨n', rfl⟩, hb2⟩
  have hc1 : w1.cell? ⟨w.heap.size, 0, none⟩ = some (.slice (some ⟨g, 0, none⟩) len len) := by
    rw [hb2.cell (p := ⟨w.heap.size, 0, none⟩) (by simp)]
    exact cell_of_row _ _ 0 _ _ _ (heap_alloc_new _ _)
  have hsz : w.heap.size < w1.heap.size := by have := hb2.size; simp at this; omega
  have hb3 : Below w.heap.size w (w1.alloc (.cells #[.int .i64 n'] 3)) := (hb1.trans (hb2.mono (by simp))).alloc (Nat.le_of_lt hsz) _
  have hc2 : (w1.alloc (.cells #[.int .i64 n'] 3)).cell? ⟨w.heap.size, 0, none⟩ = some (.slice (some ⟨g, 0, none⟩) len len) := by
    rw [← hc1]; exact World.cell?_of_block (w := w1) (Below.heap_alloc _ _ _ hsz)
  have hown : (w1.alloc (.cells #[.int .i64 n'] 3)).ownsRow w1.heap.size 3 1 (.slice (some ⟨w1.heap.size, 0, none⟩) 1 1) 1 [.int .i64 n'] :=
    ⟨rfl, .inr ⟨_, 1, _, rfl, Nat.le_refl _, heap_alloc_new _ _, Nat.le_refl _, by unfold maxLen; omega, rfl, rfl⟩⟩
  clear hb1 hb2
  go_wp2_with fail
  clear hc1 hc2
  go_loopw [3, 12] (fun v t wr => ∃ (k : Nat) (xs : List Value), k ≤ len ∧ t = .int .i64 k ∧ wr.ownsRow w1.heap.size 3 1 v (k + 1) xs ∧ Below w.heap.size w wr ∧ w1.heap.size ≤ wr.heap.size) (fun _ t _ => len - (intOf t).toNat)
  case atStart => exact ⟨0, _, Nat.zero_le _, rfl, hown, hb3, by simp⟩
  case round =>
    clear hown hb3
    obtain ⟨k, xs, hk, rfl, hown, hb, hsz2⟩ := hrel
    by_cases hlt : k < len
    · obtain ⟨v, hv, hgood⟩ := H.out.at k hlt hlt
      have g1 : wr.cell? ⟨g, k, none⟩ = some v := (hb.cell (p := ⟨g, k, none⟩) hg).trans hv
      have hlt' : (k : Int) < (len : Int) := by omega
      clear hv
      have e : ∃ a n c, v = .slice a n c := by obtain ⟨g2, n, a', n', c', rfl, _⟩ := hgood; exact ⟨_, _, _, rfl⟩
      obtain ⟨a2, n2, c2, rfl⟩ := e
      go_wp2_with fail
      have hb4 : Below w.heap.size w (wr.alloc (.cells #[.slice a2 n2 c2] 42)) := hb.alloc hb.size _
      refine (outputs_any N0 _ _ (hgood.carry fun g' _ h' => hb4.block g' h')).mono ?_
      rintro e w2 ⟨⟨m, rfl⟩, hb5⟩
      have hb6 : Below wr.heap.size wr w2 := ((Below.refl _ _).alloc (Nat.le_refl _) _).trans (hb5.mono (by simp))
      have hown2 := ownsRow_below hown hb6
      have hb7 := hb.trans (hb6.mono hb.size)
      have hs2 := hb6.size
      clear hown hb hb4 hb5 hb6 g1 hgood
      go_wp2_with (at_builtin; refine wpList_append_own _ rfl _ _ 27 rfl w1.heap.size 3 i0 (.int .i64 0) 1 8 Try.underlying27 hi hz0 hz1 hz2 rfl (by decide) _ _ _ rfl (hown2.alloc _) ⟨w2.heap.size, 0, none⟩ 1 1 [.int .i64 m] rfl rfl (cell_one_new _ _ _) (by simp [Value.oneCell']) (by unfold maxLen; omega) (by omega) (by simp; omega) ?_; intro v' w3 hown' hgrow _)
      have hgrow' : (w2.alloc (.cells #[.int .i64 m] 3)).grownBy w3 (Value.ownBlock _) := hgrow
      have hb8 : Below w.heap.size w w3 := (hb7.alloc hb7.size _).grown hgrow' (by have := hb7.size; simp; omega) (fun k e => by have := ownBlock_ge hown2 k e; omega)
      have hs3 := hgrow'.size
      go_roundw
      case rel => exact ⟨k + 1, _, by omega, by go_num, hown', hb8, by simp at hs3; omega⟩
      case measure => simp [intOf]; omega
    · obtain rfl : k = len := by omega
      have e : ∃ g' c', u3 = .slice (some ⟨g', 0, none⟩) (k + 1) c' := by
        rcases hown.2 with ⟨_, h⟩ | ⟨g', cap, cur, rfl, _⟩
        · omega
        · exact ⟨_, _, rfl⟩
      obtain ⟨g', c', rfl⟩ := e
      clear hown
      go_wp2
      go_ret
      exact ⟨⟨g', c', rfl⟩, hb⟩
end Go.Proofs.Qxb6604679a
