import Derived.Test.Qxb6003688aWalks
namespace Go.Proofs.Qxb6003688a
open Go.RowKit
set_option linter.unusedVariables false

/-- Tag.Is where the pointer is not nil. -/
def isB (full p s : ByteArray) : Bool := hpB full p && ((full.extract p.size full.size).toList == s.toList)

set_option maxHeartbeats 400000 in
theorem is_nil (s full : ByteArray) (w : World) :
    Calls Try.prog 20 #[.agg #[.pointer none, .string s], .string full] w fun e w' => e = .returned (.bool (s.toList == full.toList)) ∧ Below w.heap.size w w' := by
  go_enter Try.func20, Try.ntmps20
  go_wp2
  go_ret
  exact ⟨rfl, (Below.refl _ _).alloc (Nat.le_refl _) _⟩

theorem hp_size {s p : ByteArray} (h : hpB s p = true) : p.size ≤ s.size := by
  unfold hpB at h
  simp only [Bool.and_eq_true, decide_eq_true_eq] at h
  exact h.1

set_option maxHeartbeats 400000 in
theorem is_some (p s full : ByteArray) (g : Nat) (w : World) (hf : full.size ≤ 1048576) (hp : p.size ≤ 1048576) (hg : w.cell? ⟨g, 0, none⟩ = some (.string p)) :
    Calls Try.prog 20 #[.agg #[.pointer (some ⟨g, 0, none⟩), .string s], .string full] w fun e w' => e = .returned (.bool (isB full p s)) ∧ Below w.heap.size w w' := by
  have hlt : g < w.heap.size := block_lt_of_cell hg
  cases hh : hpB full p
  · have con : ∀ w, Calls Try.prog 27 #[.string full, .string p] w fun e w' => e = .returned (.bool false) ∧ w' = w := fun w => by rw [← hh]; exact hp_any full p w hf hp
    have hr : isB full p s = false := by unfold isB; rw [hh]; rfl
    rw [hr]
    clear hh hr
    go_enter Try.func20, Try.ntmps20
    go_wp2
    go_quiet ((go_at_call 27; exact Calls.quiet_of_same (con _)))
    go_wp2
    go_ret
    exact ⟨rfl, below_drewN ((Below.refl _ _).alloc (Nat.le_refl _) _) _⟩
  · have con : ∀ w, Calls Try.prog 27 #[.string full, .string p] w fun e w' => e = .returned (.bool true) ∧ w' = w := fun w => by rw [← hh]; exact hp_any full p w hf hp
    have hr : isB full p s = ((full.extract p.size full.size).toList == s.toList) := by unfold isB; rw [hh]; rfl
    rw [hr]
    have hsz := hp_size hh
    clear hh hr
    go_enter Try.func20, Try.ntmps20
    go_wp2
    go_quiet ((go_at_call 27; exact Calls.quiet_of_same (con _)))
    go_wp2
    go_ret
    exact ⟨rfl, below_drewN ((Below.refl _ _).alloc (Nat.le_refl _) _) _⟩
end Go.Proofs.Qxb6003688a
