import Derived.Test.Qxb6606442aHist
namespace Go.Proofs.Qxb6606442a
open Go.RowKit
set_option linter.unusedVariables false

theorem getD_left (zs ys : List Int) (k : Nat) (h : k < zs.length) : (zs ++ ys).getD k 0 = zs.getD k 0 := by
  simp only [List.getD_eq_getElem?_getD, List.getElem?_append_left h]
theorem getD_right (zs ys : List Int) (j : Nat) : (zs ++ ys).getD (zs.length + j) 0 = ys.getD j 0 := by
  simp only [List.getD_eq_getElem?_getD, List.getElem?_append_right (Nat.le_add_right _ _), Nat.add_sub_cancel_left]
theorem bytes_append {zs ys : List Int} (h1 : Bytes zs) (h2 : Bytes ys) : Bytes (zs ++ ys) := fun i => by
  by_cases h : i < zs.length
  · rw [getD_left zs ys i h]; exact h1 i
  · obtain ⟨j, rfl⟩ : ∃ j, i = zs.length + j := ⟨i - zs.length, by omega⟩
    rw [getD_right]; exact h2 j
theorem allB_append (c : Nat → Bool) (zs ys : List Int) : allB c (zs ++ ys) = (allB c zs && allB c ys) := by
  unfold allB; exact List.all_append

set_option maxHeartbeats 400000 in
theorem size9_yes (xs : Array Value) (hx : xs.size = 256) (a b : Option Addr) (n cap m cap' : Nat) (w : World) (hn : n + m ≤ 1048576) :
    Calls Try.prog 9 #[.agg xs, .slice a n cap, .slice b m cap'] w fun e w' => e = .returned (.bool true) ∧ Below w.heap.size w w' := by
  go_enter Try.func9, Try.ntmps9
  go_wp2
  go_ret
  exact ⟨rfl, (Below.refl _ _).alloc (Nat.le_refl _) _⟩

set_option maxHeartbeats 400000 in
theorem size9_no (xs : Array Value) (hx : xs.size = 256) (a b : Option Addr) (n cap m cap' : Nat) (w : World) (hn : ¬ n + m ≤ 1048576) (h1 : n ≤ maxLen) (h2 : m ≤ maxLen) :
    Calls Try.prog 9 #[.agg xs, .slice a n cap, .slice b m cap'] w fun e w' => e = .returned (.bool false) ∧ Below w.heap.size w w' := by
  unfold maxLen at h1 h2
  by_cases c1 : n ≤ 1048576
  · by_cases c2 : m ≤ 1048576
    · go_enter Try.func9, Try.ntmps9
      go_wp2
      go_ret
      exact ⟨rfl, (Below.refl _ _).alloc (Nat.le_refl _) _⟩
    · go_enter Try.func9, Try.ntmps9
      go_wp2
      go_ret
      exact ⟨rfl, (Below.refl _ _).alloc (Nat.le_refl _) _⟩
  · go_enter Try.func9, Try.ntmps9
    go_wp2
    go_ret
    exact ⟨rfl, (Below.refl _ _).alloc (Nat.le_refl _) _⟩

set_option maxHeartbeats 400000 in
theorem split_big (xs : Array Value) (hx : xs.size = 256) (a b : Option Addr) (n cap m cap' : Nat) (w : World) (hn : ¬ n + m ≤ 1048576) (h1 : n ≤ maxLen) (h2 : m ≤ maxLen) :
    Calls Try.prog 4 #[.agg xs, .slice a n cap, .slice b m cap'] w fun e w' => e = .returned (.bool true) ∧ Below w.heap.size w w' := by
  have hi : (Try.prog.info? 22).map (·.size) = some xs.size := by rw [hx]; exact Try.info22
  have hg1 := heap_alloc_new w (.cells xs 22 (0, 0))
  go_enter Try.func4, Try.ntmps4
  go_wp2_with (first | (go_at_call 9; refine (size9_no xs hx a b n cap m cap' _ hn h1 h2).mono ?_; rintro e w' ⟨rfl, hb⟩) | (refine wpList_load_row rfl 22 _ rfl w.heap.size rfl 22 xs (0, 0) _ hg1 Try.underlying22 rfl hi ?_))
  go_ret
  exact ⟨rfl, ((Below.refl _ _).alloc (Nat.le_refl _) _).trans (hb.mono (by simp))⟩

set_option maxHeartbeats 400000 in
theorem split_mid (xs : Array Value) (hx : xs.size = 256) (a b : Option Addr) (n cap m cap' : Nat) (w : World) (hn : n + m ≤ 1048576) (hmid : ¬ (n ≤ 524288 ∧ m ≤ 524288)) :
    Calls Try.prog 4 #[.agg xs, .slice a n cap, .slice b m cap'] w fun e w' => e = .returned (.bool true) ∧ Below w.heap.size w w' := by
  have hi : (Try.prog.info? 22).map (·.size) = some xs.size := by rw [hx]; exact Try.info22
  have hg1 := heap_alloc_new w (.cells xs 22 (0, 0))
  by_cases h1 : n ≤ 524288
  all_goals
    go_enter Try.func4, Try.ntmps4
    go_wp2_with (first | (go_at_call 9; refine (size9_yes xs hx a b n cap m cap' _ hn).mono ?_; rintro e w' ⟨rfl, hb⟩) | (refine wpList_load_row rfl 22 _ rfl w.heap.size rfl 22 xs (0, 0) _ hg1 Try.underlying22 rfl hi ?_))
    go_ret
    exact ⟨rfl, ((Below.refl _ _).alloc (Nat.le_refl _) _).trans (hb.mono (by simp))⟩
end Go.Proofs.Qxb6606442a
