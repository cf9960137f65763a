import Derived.Test.Qxb6003688aIs
namespace Go.Proofs.Qxb6003688a
open Go.RowKit
set_option linter.unusedVariables false

/-! ### tagOf -/
set_option maxHeartbeats 400000 in
theorem make_any (a : Option Addr) (s : ByteArray) (w : World) :
    Calls Try.prog 26 #[.pointer a, .string s] w fun e w' => e = .returned (.agg #[.pointer a, .string s]) ∧ w' = w.alloc (.cells #[.pointer a, .string s] 43) := by
  go_enter Try.func26, Try.ntmps26
  go_wp2
  exact bodyPost_ret (v := .agg #[.pointer a, .string s]) (by simp [results, Try.results26, go_sem]) rfl ⟨rfl, rfl⟩

set_option maxHeartbeats 400000 in
theorem tag_no (p s : ByteArray) (w : World) :
    Calls Try.prog 18 #[.bool false, .string p, .string s] w fun e w' => e = .returned (.agg #[.pointer none, .string s]) ∧ Below w.heap.size w w' := by
  go_enter Try.func18, Try.ntmps18
  go_wp2_with (go_at_call 26; refine (make_any none s _).mono ?_; rintro e w1 ⟨rfl, rfl⟩)
  refine bodyPost_ret (v := .agg #[.pointer none, .string s]) (by simp [results, Try.results18, go_sem]) rfl ⟨rfl, ?_⟩
  exact ((Below.refl _ _).alloc (Nat.le_refl _) _).alloc (by simp) _

set_option maxHeartbeats 400000 in
theorem tag_yes (p s : ByteArray) (w : World) :
    Calls Try.prog 18 #[.bool true, .string p, .string s] w fun e w' => ∃ g, e = .returned (.agg #[.pointer (some ⟨g, 0, none⟩), .string s]) ∧ w'.cell? ⟨g, 0, none⟩ = some (.string p) ∧ Below w.heap.size w w' := by
  go_enter Try.func18, Try.ntmps18
  go_wp2_with (go_at_call 26; refine (make_any _ s _).mono ?_; rintro e w1 ⟨rfl, rfl⟩)
  refine bodyPost_ret (v := .agg #[.pointer (some ⟨w.heap.size + 1, 0, none⟩), .string s]) (by simp [results, Try.results18, go_sem]) rfl ⟨w.heap.size + 1, rfl, ?_, ?_⟩
  · rw [World.cell?_alloc_past _ _ _ (by simp), cell_of_row _ _ 0 #[.string p] 9 (0, 0) (heap_alloc2_new w _ _)]; rfl
  · exact (((Below.refl _ _).alloc (Nat.le_refl _) _).alloc (by simp) _).alloc (by simp; omega) _

/-! ### The size guard -/
set_option maxHeartbeats 400000 in
theorem size_yes (b : Bool) (p s f : ByteArray) (w : World) (h : p.size + s.size + f.size ≤ 1048576) :
    Calls Try.prog 17 #[.bool b, .string p, .string s, .string f] w fun e w' => e = .returned (.bool true) ∧ w' = w := by
  go_enter Try.func17, Try.ntmps17
  go_wp2
  go_ret
  exact ⟨rfl, rfl⟩

set_option maxHeartbeats 800000 in
theorem size_no (b : Bool) (p s f : ByteArray) (w : World) (h : ¬ p.size + s.size + f.size ≤ 1048576) (h1 : p.size ≤ maxLen) (h2 : s.size ≤ maxLen) (h3 : f.size ≤ maxLen) :
    Calls Try.prog 17 #[.bool b, .string p, .string s, .string f] w fun e w' => e = .returned (.bool false) ∧ w' = w := by
  unfold maxLen at h1 h2 h3
  by_cases c1 : p.size ≤ 1048576
  · by_cases c2 : s.size ≤ 1048576
    · by_cases c3 : p.size + s.size ≤ 1048576
      · by_cases c4 : f.size ≤ 1048576
        · go_enter Try.func17, Try.ntmps17
          go_wp2
          go_ret
          exact ⟨rfl, rfl⟩
        · go_enter Try.func17, Try.ntmps17
          go_wp2
          go_ret
          exact ⟨rfl, rfl⟩
      · go_enter Try.func17, Try.ntmps17
        go_wp2
        go_ret
        exact ⟨rfl, rfl⟩
    · go_enter Try.func17, Try.ntmps17
      go_wp2
      go_ret
      exact ⟨rfl, rfl⟩
  · go_enter Try.func17, Try.ntmps17
    go_wp2
    go_ret
    exact ⟨rfl, rfl⟩
end Go.Proofs.Qxb6003688a
