/-
  zzCopyWeightsModelB1 (9): the deep copy of a [][][]float64 each of whose layers has a row.
-/
import Derived.Test.Qxb6604679aDeep
import Derived.Deep.RegionWith
namespace Go.Proofs.Qxb6604679a
open Go.ChangeShapes Go.WideShapes Go.ChangeAt Go.RowKit

theorem Try.info34 : (Try.prog.info? 34).map (fun i => (i.zero, i.size, i.bytes)) = some (some (.slice none 0 0), 1, 24) := by kernel_rfl
theorem Try.info40 : (Try.prog.info? 40).map (fun i => (i.zero, i.size, i.bytes)) = some (some (.slice none 0 0), 1, 24) := by kernel_rfl

theorem FRow.below' {w w' : World} {a : Option Addr} {len cap : Nat} {f : Nat → Nat} (h : FRow w a len cap f) (hb : Below w.heap.size w w') : FRow w' a len cap f := by
  refine ⟨h.1, h.2.1, h.2.2.1, fun i hi => ?_⟩
  obtain ⟨b, off, e, hc⟩ := h.2.2.2 i hi
  exact ⟨b, off, e, (hb.cell (block_lt_of_cell hc)).trans hc⟩

theorem FRow.alike {w w' : World} {a : Option Addr} {len cap : Nat} {f : Nat → Nat} (h : FRow w a len cap f) (e : w'.heap = w.heap) : FRow w' a len cap f := by
  refine ⟨h.1, h.2.1, h.2.2.1, fun i hi => ?_⟩
  obtain ⟨b, off, eq, hc⟩ := h.2.2.2 i hi
  exact ⟨b, off, eq, by rw [← hc]; exact World.cell?_of_block (w := w) (by rw [e])⟩

/-- A layer of the copy: a row in a block behind N0, with at least one element, whose first element is a slice. -/
def Good (N0 : Nat) (w : World) (v : Value) : Prop :=
  ∃ g n a' n' c', v = .slice (some ⟨g, 0, none⟩) n n ∧ N0 < g ∧ 0 < n ∧ n ≤ 131072 ∧ w.cell? ⟨g, 0, none⟩ = some (.slice a' n' c') ∧ n' ≤ 131072

/-- A new row of slices of type e, whose first k elements are p. -/
def Half (e : TypeId) (w : World) (g n k : Nat) (p : Value → Prop) : Prop :=
  ∃ xs, w.ownsRow g e 1 (.slice (some ⟨g, 0, none⟩) n n) n xs ∧ ∀ i, i < k → ∃ v, xs[i]? = some v ∧ p v

theorem Half.there {e : TypeId} {w : World} {g n k : Nat} {p : Value → Prop} (h : Half e w g n k p) (j : Nat) (hj : j < n) : (∃ v, w.cell? ⟨g, j, none⟩ = some v) ∧ w.frozen? ⟨g, j, none⟩ = false := by
  obtain ⟨xs, h, _⟩ := h
  have hl : xs.length = n * 1 := h.1
  exact ⟨⟨_, (h.cellAt j (by omega)).trans (List.getElem?_eq_getElem (by omega))⟩, h.frozenAt j⟩

theorem Half.put {e : TypeId} {w : World} {g n k : Nat} {p : Value → Prop} (h : Half e w g n k p) (hk : k < n) (v : Value) (hv : p v) : Half e (w.setCell ⟨g, k, none⟩ v) g n (k + 1) p := by
  obtain ⟨xs, h, h1⟩ := h
  have hl : xs.length = n * 1 := h.1
  refine ⟨_, (h.stored k v).1, fun i hi => ?_⟩
  rw [List.getElem?_set]
  by_cases e : k = i
  · subst e; rw [if_pos rfl, if_pos (by omega)]; exact ⟨v, rfl, hv⟩
  · rw [if_neg e]; exact h1 i (by omega)

theorem Half.like {e : TypeId} {w : World} {g n k : Nat} {p q : Value → Prop} (h : Half e w g n k p) (hq : ∀ v, p v → q v) : Half e w g n k q := by
  obtain ⟨xs, h, h1⟩ := h
  exact ⟨xs, h, fun i hi => by obtain ⟨v, a, b⟩ := h1 i hi; exact ⟨v, a, hq v b⟩⟩

/-- The row lies where it lay, in every world whose block g is as it was. -/
theorem Half.carry {e : TypeId} {w w' : World} {g n k : Nat} {p : Value → Prop} (h : Half e w g n k p) (hg : w'.heap[g]? = w.heap[g]?) : Half e w' g n k p := by
  obtain ⟨xs, ⟨h0, h⟩, h1⟩ := h
  refine ⟨xs, ⟨h0, ?_⟩, h1⟩
  rcases h with h | ⟨g', cap, cur, hv, hb, hh, r⟩
  · exact absurd h.1 (by simp)
  · have e1 : g' = g := by simp at hv; exact hv.1.symm
    subst e1
    exact .inr ⟨g', cap, cur, hv, hb, by rw [hg]; exact hh, r⟩

theorem Half.at {e : TypeId} {w : World} {g n k : Nat} {p : Value → Prop} (h : Half e w g n k p) (j : Nat) (hj : j < k) (hn : j < n) : ∃ v, w.cell? ⟨g, j, none⟩ = some v ∧ p v := by
  obtain ⟨xs, h, h1⟩ := h
  obtain ⟨v, e, hp⟩ := h1 j hj
  exact ⟨v, by rw [h.cellAt j (by omega), e], hp⟩

/-- The copied row itself is among the world's blocks. -/
theorem Half.lt {e : TypeId} {w : World} {g n k : Nat} {p : Value → Prop} (h : Half e w g n k p) : g < w.heap.size := by
  obtain ⟨xs, ⟨h0, h⟩, h1⟩ := h
  rcases h with h | ⟨g', cap, cur, hv, hb, hh, r⟩
  · exact absurd h.1 (by simp)
  · have e1 : g' = g := by simp at hv; exact hv.1.symm
    subst e1
    exact (Array.getElem?_eq_some_iff.1 hh).1

theorem Good.carry {N0 : Nat} {w w' : World} {v : Value} (h : Good N0 w v) (hb : ∀ g, N0 < g → g < w.heap.size → w'.heap[g]? = w.heap[g]?) : Good N0 w' v := by
  obtain ⟨g, n, a', n', c', e, h1, h2, h3, h4, h5⟩ := h
  exact ⟨g, n, a', n', c', e, h1, h2, h3, (World.cell?_of_block (w := w) (hb g h1 (block_lt_of_cell h4))).trans h4, h5⟩

/-- A slice of at most 1 << 17 elements. -/
def Short (v : Value) : Prop := ∃ a n c, v = .slice a n c ∧ n ≤ 131072

/-- Behind the make of layer k: what the store into c[k] asks; what holds behind that store. -/
theorem made_step {w wr w2 : World} {len k n2 : Nat} (hf : Half 40 wr w.heap.size len k (Good w.heap.size wr)) (hk : k < len) (hb : Below w.heap.size w wr)
    (hown : w2.ownsRow wr.heap.size 34 1 (.slice (some ⟨wr.heap.size, 0, none⟩) n2 n2) n2 (madeCells (Value.slice none 0 0).cells (n2 * 1)).toList) (hgrow : wr.grownBy w2 none) :
    ((∃ v, w2.cell? ⟨w.heap.size, k, none⟩ = some v) ∧ w2.frozen? ⟨w.heap.size, k, none⟩ = false) ∧
    Half 34 (w2.setCell ⟨w.heap.size, k, none⟩ (.slice (some ⟨wr.heap.size, 0, none⟩) n2 n2)) wr.heap.size n2 0 Short ∧
    Half 40 (w2.setCell ⟨w.heap.size, k, none⟩ (.slice (some ⟨wr.heap.size, 0, none⟩) n2 n2)) w.heap.size len k (Good w.heap.size wr) ∧
    (w2.setCell ⟨w.heap.size, k, none⟩ (.slice (some ⟨wr.heap.size, 0, none⟩) n2 n2)).cell? ⟨w.heap.size, k, none⟩ = some (.slice (some ⟨wr.heap.size, 0, none⟩) n2 n2) ∧
    Below w.heap.size w (w2.setCell ⟨w.heap.size, k, none⟩ (.slice (some ⟨wr.heap.size, 0, none⟩) n2 n2)) ∧
    (∀ g, w.heap.size < g → g < wr.heap.size → (w2.setCell ⟨w.heap.size, k, none⟩ (.slice (some ⟨wr.heap.size, 0, none⟩) n2 n2)).heap[g]? = wr.heap[g]?) := by
  have hb2 : Below wr.heap.size wr w2 := (Below.refl _ _).grown hgrow (Nat.le_refl _) (fun k e => by cases e)
  have hN : w.heap.size < wr.heap.size := hf.lt
  have hf2 : Half 40 w2 w.heap.size len k (Good w.heap.size wr) := hf.carry (hb2.block _ hN)
  have hh : Half 34 w2 wr.heap.size n2 0 Short := ⟨_, hown, fun i hi => absurd hi (Nat.not_lt_zero _)⟩
  refine ⟨hf2.there k hk, hh.carry (Below.heap_setCell _ _ _ _ (by show wr.heap.size ≠ w.heap.size; omega)), ?_, ?_, ?_, ?_⟩
  · obtain ⟨xs, h, h1⟩ := hf2
    refine ⟨_, (h.stored k _).1, fun i hi => ?_⟩
    rw [List.getElem?_set, if_neg (by omega)]
    exact h1 i hi
  · obtain ⟨xs, h, h1⟩ := hf2
    have hl : xs.length = len * 1 := h.1
    rw [(h.stored k _).1.cellAt k (by omega), List.getElem?_set, if_pos rfl, if_pos (by omega)]
  · exact (hb.trans (hb2.mono (by omega))).setCell (p := ⟨w.heap.size, k, none⟩) (Nat.le_refl _) _
  · intro g hg1 hg2
    rw [Below.heap_setCell _ _ _ _ (by show g ≠ w.heap.size; omega)]
    exact hb2.block g hg2

theorem Half.more {e : TypeId} {w : World} {g n k : Nat} {p : Value → Prop} (h : Half e w g n k p) (hk : k < n) {v : Value} (hc : w.cell? ⟨g, k, none⟩ = some v) (hv : p v) : Half e w g n (k + 1) p := by
  obtain ⟨xs, h, h1⟩ := h
  refine ⟨xs, h, fun i hi => ?_⟩
  by_cases e : i = k
  · subst e
    rw [h.cellAt i (by omega)] at hc
    exact ⟨v, hc, hv⟩
  · exact h1 i (by omega)

/-- Layer k is copied: one layer more is good. -/
theorem outer_step {w wo wb wr : World} {len k n2 : Nat} (hN : w.heap.size < wo.heap.size) (hk : k < len) (hpos : 0 < n2) (hn2 : n2 ≤ 131072)
    (hO : Half 40 wb w.heap.size len k (Good w.heap.size wo)) (hck : wb.cell? ⟨w.heap.size, k, none⟩ = some (.slice (some ⟨wo.heap.size, 0, none⟩) n2 n2))
    (hold : ∀ g, w.heap.size < g → g < wo.heap.size → wb.heap[g]? = wo.heap[g]?)
    (hI : Half 34 wr wo.heap.size n2 n2 Short) (hbi : Below wo.heap.size wb wr) : Half 40 wr w.heap.size len (k + 1) (Good w.heap.size wr) := by
  have h1 : Half 40 wr w.heap.size len k (Good w.heap.size wr) := (hO.carry (hbi.block _ hN)).like fun v hv => hv.carry fun g g1 g2 => (hbi.block g g2).trans (hold g g1 g2)
  obtain ⟨v, hv, a', n', c', rfl, hn'⟩ := hI.at 0 hpos hpos
  exact h1.more hk ((hbi.cell (p := ⟨w.heap.size, k, none⟩) hN).trans hck) ⟨wo.heap.size, n2, a', n', c', rfl, hN, hpos, hn2, hv, hn'⟩

set_option maxHeartbeats 2000000 in
theorem copyW_any (x : Addr) (len cap : Nat) (V : Nat → Value) (w : World) (h : SRow w (some x) len cap V) (hl : len ≤ 131072) (h2 : ∀ i, i < len → M2 131072 w (V i)) (h3 : ∀ i, i < len → NonEmpty (V i)) :
    Calls Try.prog 9 #[.slice (some x) len cap] w fun e w' => e = .returned (.slice (some ⟨w.heap.size, 0, none⟩) len len) ∧ Half 40 w' w.heap.size len len (Good w.heap.size w') ∧ Below w.heap.size w w' := by
  have H : Hid (∀ i, i < len → ∃ b off, some x = some ⟨b, off, none⟩ ∧ w.cell? ⟨b, off + i, none⟩ = some (V i)) := h.2.2.2
  have H2 : Hid (∀ i, i < len → M2 131072 w (V i)) := h2
  have H3 : Hid (∀ i, i < len → NonEmpty (V i)) := h3
  clear h h2 h3
  have q := fun w => Lib.run_eql_slice_nil (P := Try.prog) w 22 40 (some x) len cap 0 0 Try.underlying22
  obtain ⟨i0, hi, hz0, hz1, hz2⟩ := info_parts Try.info40
  go_enter Try.func9, Try.ntmps9
  go_wp2_with (at_make; refine wpList_make_full _ rfl _ _ 22 rfl w.heap.size 40 i0 (.slice none 0 0) 1 Try.underlying22 hi hz0 hz1 .i64 .i64 _ _ len rfl rfl (by simp) (by simp) (by rw [hz2]; omega) (by unfold maxLen; omega) (Nat.le_refl _) ?_; intro w1 hown hgrow)
  have hf0 : Half 40 w1 w.heap.size len 0 (Good w.heap.size w1) := ⟨_, hown, fun i hi => absurd hi (Nat.not_lt_zero _)⟩
  have hb0 : Below w.heap.size w w1 := (Below.refl _ _).grown hgrow (Nat.le_refl _) (fun k e => by cases e)
  clear hown hgrow q hi hz0 hz1 hz2
  go_loopw [13] (fun t wr => ∃ k : Nat, k ≤ len ∧ t = .int .i64 k ∧ Half 40 wr w.heap.size len k (Good w.heap.size wr) ∧ Below w.heap.size w wr) (fun t _ => len - (intOf t).toNat)
  case atStart => exact ⟨0, Nat.zero_le _, rfl, hf0, hb0⟩
  case round =>
    clear hf0 hb0
    obtain ⟨wo, hwo⟩ : ∃ wo, wo = wr := ⟨wr, rfl⟩
    subst hwo
    obtain ⟨k, hk, rfl, hf, hb⟩ := hrel
    by_cases hlt : k < len
    · obtain ⟨b, off, e, hcell⟩ := H.out k hlt
      obtain rfl : x = ⟨b, off, none⟩ := by simpa using e
      obtain ⟨a2, n2, c2, V2, e2, hn2, hs2, hF⟩ := H2.out k hlt
      obtain ⟨a2', n2', c2', e2', hpos⟩ := H3.out k hlt
      obtain ⟨rfl, rfl, rfl⟩ : a2' = a2 ∧ n2' = n2 ∧ c2' = c2 := by rw [e2] at e2'; simp at e2'; exact ⟨e2'.1.symm, e2'.2.1.symm, e2'.2.2.symm⟩
      obtain ⟨x2, rfl⟩ : ∃ x2, a2' = some x2 := by
        cases a2' with
        | none => exact absurd (hs2.2.2.1 rfl).1 (by omega)
        | some x2 => exact ⟨x2, rfl⟩
      rw [e2] at hcell
      have HS2 : Hid (SRow w (some x2) n2' c2' V2) := hs2
      have HF : Hid (∀ j, j < n2' → F1 131072 w (V2 j)) := hF
      have hbl : b < w.heap.size := block_lt_of_cell hcell
      have hc1 : wo.cell? ⟨b, off + k, none⟩ = some (.slice (some x2) n2' c2') := (hb.cell hbl).trans hcell
      have HC : Hid (w.cell? ⟨b, off + k, none⟩ = some (.slice (some x2) n2' c2')) := hcell
      clear hs2 hF e2 e2' hcell e
      have hlt' : (k : Int) < (len : Int) := by omega
      have q2 := fun w => Lib.run_eql_slice_nil (P := Try.prog) w 40 34 (some x2) n2' c2' 0 0 Try.underlying40
      obtain ⟨i0, hi, hz0, hz1, hz2⟩ := info_parts Try.info34
      have hN : w.heap.size < wo.heap.size := hf.lt
      go_wp2_with (at_make; refine wpList_make_full _ rfl _ _ 40 rfl wo.heap.size 34 i0 (.slice none 0 0) 1 Try.underlying40 hi hz0 hz1 .i64 .i64 _ _ n2' rfl rfl (by simp) (by simp) (by rw [hz2]; omega) (by unfold maxLen; omega) (Nat.le_refl _) ?_; intro w2 hown hgrow; obtain ⟨⟨⟨v2, hcv⟩, hfz⟩, hI, hO, hck, hbw, hold⟩ := made_step hf hlt hb hown hgrow; have hcb := (hbw.cell (p := ⟨b, off + k, none⟩) hbl).trans HC.out; clear hown hgrow)
      clear hcv hfz hc1 q2 hi hz0 hz1 hz2
      generalize w2.setCell ⟨w.heap.size, k, none⟩ (.slice (some ⟨wo.heap.size, 0, none⟩) n2' n2') = wb at hI hO hck hbw hold hcb ⊢
      go_loopw [35] (fun t wi => ∃ j : Nat, j ≤ n2' ∧ t = .int .i64 j ∧ Half 34 wi wo.heap.size n2' j Short ∧ Below wo.heap.size wb wi) (fun t _ => n2' - (intOf t).toNat)
      case atStart => exact ⟨0, Nat.zero_le _, rfl, hI, Below.refl _ _⟩
      case round =>
        clear hI
        obtain ⟨j, hj, rfl, hI, hbi⟩ := hrel
        by_cases hjl : j < n2'
        · obtain ⟨b2, off2, e, hcell2⟩ := HS2.out.2.2.2 j hjl
          obtain rfl : x2 = ⟨b2, off2, none⟩ := by simpa using e
          obtain ⟨a3, n3, c3, f, e3, hn3, hrow⟩ := HF.out j hjl
          rw [e3] at hcell2
          have hbwi : Below w.heap.size w wr := hbw.trans (hbi.mono (Nat.le_of_lt hN))
          have g1 : wr.cell? ⟨w.heap.size, k, none⟩ = some (.slice (some ⟨wo.heap.size, 0, none⟩) n2' n2') := (hbi.cell (p := ⟨w.heap.size, k, none⟩) hN).trans hck
          have g2 : wr.cell? ⟨b, off + k, none⟩ = some (.slice (some ⟨b2, off2, none⟩) n2' c2') := (hbwi.cell (p := ⟨b, off + k, none⟩) hbl).trans HC.out
          have g3 : wr.cell? ⟨b2, off2 + j, none⟩ = some (.slice a3 n3 c3) := (hbwi.cell (block_lt_of_cell hcell2)).trans hcell2
          have HR : Hid (FRow wr a3 n3 c3 f) := hrow.below' hbwi
          obtain ⟨⟨v3, g4⟩, g5⟩ := hI.there j hjl
          have hjl' : (j : Int) < (n2' : Int) := by omega
          clear hrow e3 hcell2 e hbwi
          have HX : Hid (∀ w0, Below wr.heap.size wr w0 → Calls Try.prog 14 #[.slice a3 n3 c3] w0 fun e w' => ∃ a' c', e = .returned (.slice a' n3 c') ∧ Below wr.heap.size wr w') := fun w0 hb0 =>
            (copy_any a3 n3 c3 f w0 (HR.out.below' hb0) (by omega)).mono fun e w' ⟨a', c', he, _, hb'⟩ => ⟨a', c', he, hb0.trans (hb'.mono hb0.size)⟩
          clear hf hb hO hbw hold hcb hck
          have hlI := hI.lt
          go_wp2
          go_region_with (go_at_call 14; refine (HX.out _ ?_).mono ?_; exact (Below.refl _ _).drew; rintro e w' ⟨a', c', rfl, hbx⟩; have k1 := (hbx.cell (p := ⟨w.heap.size, k, none⟩) (Nat.lt_trans hN hlI)).trans g1; have k4 := (hbx.cell (p := ⟨wo.heap.size, j, none⟩) hlI).trans g4; have k5 := (hbx.frozen (p := ⟨wo.heap.size, j, none⟩) hlI).trans g5)
          all_goals go_wp2
          all_goals
            go_roundw
            case rel => exact ⟨j + 1, by omega, by go_num, (hI.carry (hbx.block _ hlI)).put hjl _ ⟨a', n3, c', rfl, hn3⟩, (hbi.trans (hbx.mono (Nat.le_of_lt hlI))).setCell (p := ⟨wo.heap.size, j, none⟩) (Nat.le_refl _) _⟩
            case measure => simp [intOf]; omega
        · obtain rfl : j = n2' := by omega
          have HO : Hid (_ ∧ _) := ⟨outer_step hN hlt hpos hn2 hO hck hold hI hbi, hbw.trans (hbi.mono (Nat.le_of_lt hN))⟩
          clear hO hck hold hI hbi hbw hcb hf hb
          go_wp2
          go_roundw
          case rel => exact ⟨k + 1, by omega, by go_num, HO.out.1, HO.out.2⟩
          case measure => simp [intOf]; omega
    · obtain rfl : k = len := by omega
      go_wp2
      go_ret
      exact ⟨rfl, hf, hb⟩
end Go.Proofs.Qxb6604679a
