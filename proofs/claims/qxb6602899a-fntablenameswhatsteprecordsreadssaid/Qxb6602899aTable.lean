/-
  'Rows.FnTableNamesWhatStepRecordsReadsSaid': the walk.
-/
import Derived.Test.Qxb6602899aContains
namespace Go.Proofs.Qxb6602899a
open Go.ChangeShapes Go.WideShapes Go.ChangeAt Go.RowKit

theorem unhid {p : Prop} (h : p) : Hid p := h

/-- The check of 'Occurs', by lists. -/
def occB (C sub : ByteArray) (p : Nat) : Bool := decide (p + sub.size ≤ C.size) && (C.data.toList.drop p).take sub.size == sub.data.toList

theorem occ_of_B {C sub : ByteArray} {p : Nat} (h : occB C sub p = true) : Occurs C sub p := by
  unfold occB at h
  rw [Bool.and_eq_true, decide_eq_true_eq, beq_iff_eq] at h
  obtain ⟨h1, h2⟩ := h
  refine ⟨h1, fun j hj hp => ?_⟩
  have e := congrArg (·[j]?) h2
  simp only [List.getElem?_take, if_pos hj, List.getElem?_drop] at e
  have a1 : C.data.toList[p + j]? = some C[p + j] := by rw [List.getElem?_eq_getElem (by simpa using hp)]; rfl
  have a2 : sub.data.toList[j]? = some sub[j] := by rw [List.getElem?_eq_getElem (by simpa using hj)]; rfl
  rw [a1, a2] at e
  exact Option.some.inj e

theorem occ_append {C sub : ByteArray} {p : Nat} (h : Occurs C sub p) (s : ByteArray) : Occurs (C ++ s) sub p := by
  obtain ⟨h1, h2⟩ := h
  have hz : (C ++ s).size = C.size + s.size := ByteArray.size_append
  refine ⟨by omega, fun j hj hp => ?_⟩
  rw [← h2 j hj (by omega)]
  exact ByteArray.getElem_append_left (by omega)

/-- What ZZStepRecords hands back: a text of at most 2000 bytes that holds sub at place p, then s, then at most 10 bytes. -/
def Records (sub : ByteArray) (p : Nat) (s : ByteArray) (e : Ending) : Prop := ∃ C t : ByteArray, e = .returned (.string (C ++ s ++ t)) ∧ Occurs C sub p ∧ C.size ≤ 2000 ∧ t.size ≤ 10

/-- The words that the law looks for. -/
def subC : ByteArray := ⟨#[102, 114, 111, 109, 32, 105, 107, 107, 97, 110, 46, 115, 116, 101, 112, 115, 32, 115, 116, 32, 108, 101, 102, 116, 32, 106, 111, 105, 110, 32, 105, 107, 107, 97, 110, 46, 99, 111, 109, 112, 101, 110, 115, 97, 116, 105, 111, 110, 115, 32, 117, 32, 111, 110, 32]⟩

theorem subC_eq : (⟨#[102, 114, 111, 109, 32]⟩ : ByteArray) ++ ⟨#[105, 107, 107, 97, 110, 46, 115, 116, 101, 112, 115]⟩ ++ ⟨#[32, 115, 116, 32, 108, 101, 102, 116, 32, 106, 111, 105, 110, 32]⟩ ++
    ⟨#[105, 107, 107, 97, 110, 46, 99, 111, 109, 112, 101, 110, 115, 97, 116, 105, 111, 110, 115]⟩ ++ ⟨#[32, 117, 32, 111, 110, 32]⟩ = subC := by decide +kernel

set_option maxHeartbeats 400000 in
set_option maxRecDepth 10000 in
theorem records_any (s : ByteArray) (w : World) (hs : s.size ≤ 1048576) :
    Calls Try.prog 12 #[.string s] w fun e w' => Records subC 704 s e ∧ w' = w := by
  go_enter Try.func12, Try.ntmps12
  go_wp2
  go_ret
  exact ⟨⟨_, _, rfl, occ_of_B (by decide +kernel), by decide +kernel, by decide +kernel⟩, rfl⟩

set_option maxHeartbeats 400000 in
theorem table_long (s : ByteArray) (x y : Int) (w : World) (hs : 1048576 < s.size) (hm : s.size ≤ maxLen) :
    Calls Try.prog 7 #[.string s, .int .i64 x, .int .i64 y] w fun e w' => e = .returned (.bool true) ∧ Grown w w' := by
  unfold maxLen at hm
  go_enter Try.func7, Try.ntmps7
  go_wp2
  go_ret
  exact ⟨rfl, Grown.refl _⟩

set_option maxHeartbeats 1000000 in
set_option maxRecDepth 10000 in
theorem table_short (s : ByteArray) (x y : Int) (w : World) (hs : s.size ≤ 1048576) :
    Calls Try.prog 7 #[.string s, .int .i64 x, .int .i64 y] w fun e w' => e = .returned (.bool true) ∧ Grown w w' := by
  have HR : Hid (∀ w, Calls Try.prog 12 #[.string s] w fun e w' => Records subC 704 s e ∧ w' = w) := fun w => records_any s w hs
  go_enter Try.func7, Try.ntmps7
  go_wp2_with (first | (go_at_call 12; refine (HR.out _).mono ?_; rintro e w' ⟨⟨C, t, rfl, hocc, hC, ht⟩, hw'⟩; subst w'; refine Hid.out ?_) | go_in)
  have hg : Grown w ((((w.alloc (.cells #[.int .i64 x, .bool false] 31)).alloc (.cells #[.int .i64 y, .bool true] 31)).alloc (.cells #[.int .i64 y, .bool false] 31)).alloc (.cells #[.int .i64 x, .bool true] 31)) :=
    ((((Grown.refl _).alloc _ _).alloc _ _).alloc _ _).alloc _ _
  have hq : Occurs (C ++ s ++ t) subC 704 := occ_append (occ_append hocc s) t
  have hz : (C ++ s ++ t).size ≤ maxLen := by
    rw [ByteArray.size_append, ByteArray.size_append]; unfold maxLen; omega
  clear hocc hC ht
  generalize C ++ s ++ t = q at hq hz ⊢
  generalize ((((w.alloc (.cells #[.int .i64 x, .bool false] 31)).alloc (.cells #[.int .i64 y, .bool true] 31)).alloc (.cells #[.int .i64 y, .bool false] 31)).alloc (.cells #[.int .i64 x, .bool true] 31)) = w2 at hg ⊢
  have HQ : Hid (∀ w, Calls Try.prog 15 #[.string q, .string subC] w fun e w' => e = .returned (.bool true) ∧ ∃ n, w' = w.drewN n) := fun w => contains_any q subC 704 w hz hq
  clear hq hz HR
  refine unhid ?_
  go_wp2_with fail
  rw [subC_eq]
  refine (HQ.out _).mono ?_
  rintro e w3 ⟨rfl, n, rfl⟩
  go_wp2
  go_ret
  exact ⟨rfl, hg⟩

theorem table_any (s : ByteArray) (x y : Int) (w : World) (hs : s.size ≤ maxLen) :
    Calls Try.prog 7 #[.string s, .int .i64 x, .int .i64 y] w fun e w' => e = .returned (.bool true) ∧ Grown w w' := by
  by_cases h : s.size ≤ 1048576
  · exact table_short s x y w h
  · exact table_long s x y w (by omega) hs
end Go.Proofs.Qxb6602899a
