/-
  zzCopyBytes (7), zzBlank (14), (Walker).Next (12): what they do.
-/
import Derived.Test.Qxb6002903aRows
import Derived.WalkKit
import Derived.ProofKit
import Derived.WalkLawsBesides
import Derived.WalkSpells
import Derived.Deep.QuietTactic
import Derived.BigQuiet
namespace Go.Proofs.Qxb6002903a
open Go.ChangeShapes Go.WideShapes Go.ChangeAt Go.RowKit

/-- What the walks ask of a slice of bytes: the cells of its elements hold z 0, z 1, .., each a byte. -/
def BRow (w : World) (a : Option Addr) (len cap : Nat) (z : Nat → Int) : Prop :=
  len ≤ cap ∧ cap ≤ maxLen ∧ (a = none → len = 0 ∧ cap = 0) ∧ (∀ i, i < len → 0 ≤ z i ∧ z i ≤ 255) ∧ ∀ i, i < len → ∃ b off, a = some ⟨b, off, none⟩ ∧ w.cell? ⟨b, off + i, none⟩ = some (.int .u8 (z i))

/-- A new row of cells of type e, whose first k hold V 0, V 1, .. -/
def Fill (e : TypeId) (w : World) (g n k : Nat) (V : Nat → Value) : Prop :=
  ∃ xs, w.ownsRow g e 1 (.slice (some ⟨g, 0, none⟩) n n) n xs ∧ ∀ i, i < k → xs[i]? = some (V i)

theorem Fill.there {e : TypeId} {w : World} {g n k : Nat} {V : Nat → Value} (h : Fill e w g n k V) (j : Nat) (hj : j < n) : (∃ v, w.cell? ⟨g, j, none⟩ = some v) ∧ w.frozen? ⟨g, j, none⟩ = false := by
  obtain ⟨xs, h, _⟩ := h
  have hl : xs.length = n * 1 := h.1
  exact ⟨⟨_, (h.cellAt j (by omega)).trans (List.getElem?_eq_getElem (by omega))⟩, h.frozenAt j⟩

theorem Fill.put {e : TypeId} {w : World} {g n k : Nat} {V : Nat → Value} (h : Fill e w g n k V) (hk : k < n) : Fill e (w.setCell ⟨g, k, none⟩ (V k)) g n (k + 1) V := by
  obtain ⟨xs, h, h1⟩ := h
  have hl : xs.length = n * 1 := h.1
  refine ⟨_, (h.stored k (V k)).1, fun i hi => ?_⟩
  rw [List.getElem?_set]
  by_cases e : k = i
  · subst e; rw [if_pos rfl, if_pos (by omega)]
  · rw [if_neg e]; exact h1 i (by omega)

theorem Fill.at {e : TypeId} {w : World} {g n k : Nat} {V : Nat → Value} (h : Fill e w g n k V) (j : Nat) (hj : j < k) (hn : j < n) : w.cell? ⟨g, j, none⟩ = some (V j) := by
  obtain ⟨xs, h, h1⟩ := h
  rw [h.cellAt j (by omega)]
  exact h1 j hj

theorem Try.info5 : (Try.prog.info? 5).map (fun i => (i.zero, i.size, i.bytes)) = some (some (.int .u8 0), 1, 1) := by kernel_rfl

theorem copy_nil (w : World) : Calls Try.prog 7 #[.slice none 0 0] w fun e w' => e = .returned (.slice none 0 0) ∧ w' = w := by
  have q := fun w => Lib.run_eql_slice_nil (P := Try.prog) w 22 5 none 0 0 0 0 Try.underlying22
  go_enter Try.func7, Try.ntmps7
  go_wp2
  go_ret
  exact ⟨rfl, rfl⟩

set_option maxHeartbeats 400000 in
theorem copy_some (x : Addr) (len cap : Nat) (z : Nat → Int) (w : World) (h : BRow w (some x) len cap z) (hl : len ≤ 1048576) :
    Calls Try.prog 7 #[.slice (some x) len cap] w fun e w' => e = .returned (.slice (some ⟨w.heap.size, 0, none⟩) len len) ∧ BRow w' (some ⟨w.heap.size, 0, none⟩) len len z ∧ Below w.heap.size w w' := by
  obtain ⟨hlc, hcm, _, hz, hc⟩ := h
  have H : Hid (∀ i, i < len → ∃ b off, some x = some ⟨b, off, none⟩ ∧ w.cell? ⟨b, off + i, none⟩ = some (.int .u8 (z i))) := hc
  have HZ : Hid (∀ i, i < len → 0 ≤ z i ∧ z i ≤ 255) := hz
  clear hc hz
  unfold maxLen at hcm
  have q := fun w => Lib.run_eql_slice_nil (P := Try.prog) w 22 5 (some x) len cap 0 0 Try.underlying22
  obtain ⟨i0, hi, hz0, hz1, hz2⟩ := info_parts Try.info5
  go_enter Try.func7, Try.ntmps7
  go_wp2_with (at_make; refine wpList_make_full _ rfl _ _ 22 rfl w.heap.size 5 i0 (.int .u8 0) 1 Try.underlying22 hi hz0 hz1 .i64 .i64 _ _ len rfl rfl (by simp) (by simp) (by rw [hz2]; omega) (by unfold maxLen; omega) (Nat.le_refl _) ?_; intro w1 hown hgrow)
  have hb1 : Below w.heap.size w w1 := (Below.refl _ _).grown hgrow (Nat.le_refl _) (fun k e => by cases e)
  have hf1 : Fill 5 w1 w.heap.size len 0 (fun i => .int .u8 (z i)) := ⟨_, hown, fun i hi => absurd hi (Nat.not_lt_zero _)⟩
  clear hgrow hi hz0 hz1 hz2 q hown
  go_loopw [4] (fun t wr => ∃ k : Nat, k ≤ len ∧ t = .int .i64 (k : Nat) ∧ Fill 5 wr w.heap.size len k (fun i => .int .u8 (z i)) ∧ Below w.heap.size w wr) (fun t _ => len - (intOf t).toNat)
  case atStart => exact ⟨0, Nat.zero_le _, rfl, hf1, hb1⟩
  case round =>
    clear hf1 hb1
    obtain ⟨k, hk, rfl, hf, hb⟩ := hrel
    by_cases hlt : k < len
    · obtain ⟨b, off, e, hcell⟩ := H.out k hlt
      obtain rfl : x = ⟨b, off, none⟩ := by simpa using e
      have hc1 : wr.cell? ⟨b, off + k, none⟩ = some (.int .u8 (z k)) := (hb.cell (block_lt_of_cell hcell)).trans hcell
      obtain ⟨⟨v2, hc2⟩, hfz⟩ := hf.there k hlt
      have R : Hid (Fill 5 (wr.setCell ⟨w.heap.size, k, none⟩ (.int .u8 (z k))) w.heap.size len (k + 1) (fun i => .int .u8 (z i)) ∧ Below w.heap.size w (wr.setCell ⟨w.heap.size, k, none⟩ (.int .u8 (z k)))) :=
        ⟨hf.put hlt, hb.setCell (p := ⟨w.heap.size, k, none⟩) (Nat.le_refl _) _⟩
      have hlt' : (k : Int) < (len : Int) := by omega
      clear hf hb e hcell
      go_wp2
      go_roundw
      case rel => exact ⟨k + 1, by omega, by go_num, R.out.1, R.out.2⟩
      case measure => simp [intOf]; omega
    · obtain rfl : k = len := by omega
      have R : Hid (∀ i, i < k → wr.cell? ⟨w.heap.size, 0 + i, none⟩ = some (.int .u8 (z i))) := fun i hi => by
        rw [Nat.zero_add]; exact hf.at i hi hi
      clear hf
      go_wp2
      go_ret
      exact ⟨rfl, ⟨Nat.le_refl _, by unfold maxLen; omega, (fun e => by cases e), HZ.out, fun i hi => ⟨_, _, rfl, R.out i hi⟩⟩, hb⟩

/-- The copy: the same bytes; a nil slice stays nil; nothing that was there has turned. -/
theorem copy_any (a : Option Addr) (len cap : Nat) (z : Nat → Int) (w : World) (h : BRow w a len cap z) (hl : len ≤ 1048576) :
    Calls Try.prog 7 #[.slice a len cap] w fun e w' => ∃ a' cap', e = .returned (.slice a' len cap') ∧ BRow w' a' len cap' z ∧ Below w.heap.size w w' := by
  cases a with
  | none =>
    obtain ⟨rfl, rfl⟩ := h.2.2.1 rfl
    refine (copy_nil w).mono ?_
    rintro e w' ⟨rfl, rfl⟩
    exact ⟨none, 0, rfl, h, Below.refl _ _⟩
  | some x =>
    refine (copy_some x len cap z w h hl).mono ?_
    rintro e w' ⟨rfl, h1, h2⟩
    exact ⟨_, _, rfl, h1, h2⟩

/-- A blank. -/
def blank (c : Int) : Bool := (c == 32) || (c == 9) || (c == 10) || (c == 13)

set_option maxHeartbeats 400000 in
theorem blank_any (c : Int) (w : World) : Calls Try.prog 14 #[.int .u8 c] w fun e w' => e = .returned (.bool (blank c)) ∧ w' = w := by
  unfold blank
  by_cases h1 : c = 32
  · subst h1
    go_enter Try.func14, Try.ntmps14
    go_wp2
    go_ret
    exact ⟨rfl, rfl⟩
  have e1 : (c == 32) = false := by rw [beq_eq_false_iff_ne]; exact h1
  clear h1
  by_cases h2 : c = 9
  · subst h2
    go_enter Try.func14, Try.ntmps14
    go_wp2
    go_ret
    exact ⟨rfl, rfl⟩
  have e2 : (c == 9) = false := by rw [beq_eq_false_iff_ne]; exact h2
  clear h2
  by_cases h3 : c = 10
  · subst h3
    go_enter Try.func14, Try.ntmps14
    go_wp2
    go_ret
    exact ⟨rfl, rfl⟩
  have e3 : (c == 10) = false := by rw [beq_eq_false_iff_ne]; exact h3
  clear h3
  go_enter Try.func14, Try.ntmps14
  go_wp2
  go_ret
  exact ⟨by rw [e1, e2, e3]; rfl, rfl⟩

/-! ### The walker -/

/-- Block g holds a Walker over the slice a, at place p. -/
def Wk (w : World) (g : Nat) (a : Option Addr) (len cap p : Nat) (st : Bool) : Prop := w.heap[g]? = some (.cells #[.slice a len cap, .int .i64 (p : Int), .bool st] 34 (0, 0))

/-- Of all that was there, block g alone has turned. -/
structure Only (g : Nat) (w w' : World) : Prop where
  os : w'.os = w.os
  tape : w'.tape = w.tape
  output : w'.output = w.output
  size : w'.heap.size = w.heap.size
  block : ∀ k, k ≠ g → w'.heap[k]? = w.heap[k]?

theorem Only.refl (g : Nat) (w : World) : Only g w w := ⟨rfl, rfl, rfl, rfl, fun _ _ => rfl⟩
theorem Only.trans {g : Nat} {a b c : World} (h : Only g a b) (k : Only g b c) : Only g a c :=
  ⟨k.os.trans h.os, k.tape.trans h.tape, k.output.trans h.output, k.size.trans h.size, fun i hi => (k.block i hi).trans (h.block i hi)⟩
theorem Only.drewN {g : Nat} {a b : World} (h : Only g a b) (n : Nat) : Only g a (b.drewN n) := ⟨h.os, h.tape, h.output, h.size, h.block⟩
theorem Only.setCell {g : Nat} {a b : World} (h : Only g a b) (j : Nat) (v : Value) : Only g a (b.setCell ⟨g, j, none⟩ v) :=
  h.trans ⟨rfl, rfl, rfl, by simp [World.setCell], fun k hk => Below.heap_setCell _ _ _ _ hk⟩
theorem Only.below {g B : Nat} {a b : World} (h : Only g a b) (hB : B ≤ g) : Below B a b :=
  ⟨h.os, h.tape, h.output, Nat.le_of_eq h.size.symm, fun k hk => h.block k (by omega)⟩

theorem Wk.cell0 {w : World} {g : Nat} {a : Option Addr} {len cap p : Nat} {st : Bool} (h : Wk w g a len cap p st) : w.cell? ⟨g, 0, none⟩ = some (.slice a len cap) := cell_of_row _ _ 0 _ _ _ h
theorem Wk.cell1 {w : World} {g : Nat} {a : Option Addr} {len cap p : Nat} {st : Bool} (h : Wk w g a len cap p st) : w.cell? ⟨g, 1, none⟩ = some (.int .i64 (p : Int)) := cell_of_row _ _ 1 _ _ _ h
theorem Wk.free1 {w : World} {g : Nat} {a : Option Addr} {len cap p : Nat} {st : Bool} (h : Wk w g a len cap p st) : w.frozen? ⟨g, 1, none⟩ = false := frozen_of_row _ _ 1 _ _ h
theorem Wk.drewN {w : World} {g : Nat} {a : Option Addr} {len cap p : Nat} {st : Bool} (h : Wk w g a len cap p st) (n : Nat) : Wk (w.drewN n) g a len cap p st := h
theorem Wk.move {w : World} {g : Nat} {a : Option Addr} {len cap p : Nat} {st : Bool} (h : Wk w g a len cap p st) (q : Nat) : Wk (w.setCell ⟨g, 1, none⟩ (.int .i64 (q : Int))) g a len cap q st :=
  heap_setCell_same w g 1 _ _ _ h

/-- A byte's cell does not lie in the walker. -/
theorem Wk.other {w : World} {g : Nat} {a : Option Addr} {len cap p : Nat} {st : Bool} (h : Wk w g a len cap p st) {b o : Nat} {x : Int} (hc : w.cell? ⟨b, o, none⟩ = some (.int .u8 x)) : b ≠ g := by
  intro e
  subst e
  rw [cell_of_row _ _ o _ _ _ h] at hc
  match o, hc with
  | 0, hc => simp at hc
  | 1, hc => simp at hc
  | 2, hc => simp at hc
  | _ + 3, hc => simp at hc

theorem BRow.only {w w' : World} {g : Nat} {a : Option Addr} {len cap p : Nat} {st : Bool} {z : Nat → Int} (h : BRow w a len cap z) (hk : Wk w g a len cap p st) (ho : Only g w w') : BRow w' a len cap z := by
  refine ⟨h.1, h.2.1, h.2.2.1, h.2.2.2.1, fun i hi => ?_⟩
  obtain ⟨b, off, e, hc⟩ := h.2.2.2.2 i hi
  exact ⟨b, off, e, (World.cell?_of_block (w := w) (ho.block b (hk.other hc))).trans hc⟩

/-- What Next does: from p it passes over blanks alone, to p'; c is the byte there, or 0 at the end. -/
def Skip (z : Nat → Int) (len p p' : Nat) (c : Int) : Prop :=
  p ≤ p' ∧ (p' ≤ len ∨ p' = p) ∧ (∀ i, p ≤ i → i < p' → blank (z i) = true) ∧ (p' < len → blank (z p') = false ∧ c = z p') ∧ (len ≤ p' → c = 0)

/-- The place that the walker holds. -/
def posOf (g : Nat) (w : World) : Nat := match w.cell? ⟨g, 1, none⟩ with | some (.int _ q) => q.toNat | _ => 0
theorem Wk.pos {w : World} {g : Nat} {a : Option Addr} {len cap p : Nat} {st : Bool} (h : Wk w g a len cap p st) : posOf g w = p := by
  unfold posOf; rw [h.cell1]; simp

set_option maxHeartbeats 1000000 in
theorem next_any (g : Nat) (a : Option Addr) (len cap p : Nat) (st : Bool) (z : Nat → Int) (w : World) (hk : Wk w g a len cap p st) (hr : BRow w a len cap z) (hl : len ≤ 1048576) :
    Calls Try.prog 12 #[.pointer (some ⟨g, 0, none⟩)] w fun e w' => ∃ p' c, e = .returned (.int .u8 c) ∧ Skip z len p p' c ∧ Wk w' g a len cap p' st ∧ Only g w w' := by
  have HR : Hid (BRow w a len cap z) := hr
  have HK : Hid (Wk w g a len cap p st) := hk
  clear hr hk
  go_enter Try.func12, Try.ntmps12
  go_wp2
  go_loopw [] (fun wr => ∃ q : Nat, p ≤ q ∧ (q ≤ len ∨ q = p) ∧ Hid (∀ i, p ≤ i → i < q → blank (z i) = true) ∧ Wk wr g a len cap q st ∧ Only g w wr) (fun wr => len - posOf g wr)
  case atStart => exact ⟨p, Nat.le_refl _, .inr rfl, fun i h1 h2 => absurd h1 (by omega), HK.out, Only.refl _ _⟩
  case round =>
    obtain ⟨q, hpq, hql, HB, hk, ho⟩ := hrel
    have c0 := hk.cell0
    have c1 := hk.cell1
    by_cases hlt : q < len
    · have hr := HR.out.only HK.out ho
      obtain ⟨b, off, rfl, hcell⟩ := hr.2.2.2.2 q hlt
      have hlt' : (q : Int) < (len : Int) := by omega
      have f1 := hk.free1
      obtain ⟨c, hc⟩ : ∃ c, z q = c := ⟨_, rfl⟩
      rw [hc] at hcell
      have HC : Hid (z q = c) := hc
      have hwr : IntKind.i64.wrap ((q : Int) + 1) = (q : Int) + 1 := by rw [IntKind.wrap_i64]; omega
      clear hr hc
      by_cases hb : c = 32 ∨ c = 9 ∨ c = 10 ∨ c = 13
      · have R : Hid (∀ n, ∃ q' : Nat, p ≤ q' ∧ (q' ≤ len ∨ q' = p) ∧ Hid (∀ i, p ≤ i → i < q' → blank (z i) = true) ∧ Wk ((wr.drewN n).setCell ⟨g, 1, none⟩ (.int .i64 ((q : Int) + 1))) g (some ⟨b, off, none⟩) len cap q' st ∧ Only g w ((wr.drewN n).setCell ⟨g, 1, none⟩ (.int .i64 ((q : Int) + 1)))) := by
          intro n
          refine ⟨q + 1, by omega, by omega, fun i h1 h2 => ?_, (hk.drewN n).move (q + 1), (ho.drewN n).setCell 1 _⟩
          by_cases e : i = q
          · subst e
            rw [HC.out]
            rcases hb with rfl | rfl | rfl | rfl <;> rfl
          · exact HB.out i h1 (by omega)
        have RM : Hid (∀ n, posOf g ((wr.drewN n).setCell ⟨g, 1, none⟩ (.int .i64 ((q : Int) + 1))) = q + 1 ∧ posOf g wr = q) := fun n => ⟨((hk.drewN n).move (q + 1)).pos, hk.pos⟩
        clear hk ho HB
        rcases hb with rfl | rfl | rfl | rfl
        all_goals
          go_wp2
          go_quiet (fail)
          go_wp2
          go_quiet (fail)
          go_wp2
          go_roundw
          case rel => exact R.out _
          case measure => rw [(RM.out _).1, (RM.out 0).2]; omega
      · have e1 : (c == 32) = false := by rw [beq_eq_false_iff_ne]; omega
        have e2 : (c == 9) = false := by rw [beq_eq_false_iff_ne]; omega
        have e3 : (c == 10) = false := by rw [beq_eq_false_iff_ne]; omega
        have e4 : (c == 13) = false := by rw [beq_eq_false_iff_ne]; omega
        have R : Hid (Skip z len p q c ∧ Wk wr g (some ⟨b, off, none⟩) len cap q st ∧ Only g w wr) :=
          ⟨⟨hpq, hql, HB.out, fun _ => ⟨by rw [HC.out]; unfold blank; rw [e1, e2, e3, e4]; rfl, HC.out.symm⟩, fun h => absurd h (by omega)⟩, hk, ho⟩
        clear hk ho HB hb
        go_wp2
        go_quiet (fail)
        go_wp2
        go_quiet (fail)
        go_wp2
        go_ret
        exact ⟨q, c, rfl, R.out.1, R.out.2.1, R.out.2.2.drewN _⟩
    · have hlt' : ¬ (q : Int) < (len : Int) := by omega
      have R : Hid (Skip z len p q 0 ∧ Wk wr g a len cap q st ∧ Only g w wr) :=
          ⟨⟨hpq, hql, HB.out, fun h => absurd h (by omega), fun _ => rfl⟩, hk, ho⟩
      clear hk ho HB
      go_wp2
      go_quiet (fail)
      go_wp2
      go_ret
      exact ⟨q, 0, rfl, R.out.1, R.out.2.1, R.out.2.2.drewN _⟩
end Go.Proofs.Qxb6002903a
