import Derived.Test.Qxb6003688aRows
import Derived.WalkKit
import Derived.ProofKit
import Derived.OpenShut
import Derived.ShutString
import Derived.ChangeOld
import Derived.Below
import Derived.WalkLawsBesides
import Derived.WalkSpells
import Derived.Outline
import Derived.Deep.QuietTactic
import Derived.BigQuiet
namespace Go.Proofs.Qxb6003688a
open Go.RowKit
set_option linter.unusedVariables false

/-- strings.HasPrefix -/
def hpB (s p : ByteArray) : Bool := decide (p.size ≤ s.size) && ((s.extract 0 p.size).toList == p.toList)
theorem ret_bool {a b : Bool} (h : a = b) : Ending.returned (.bool a) = .returned (.bool b) := by rw [h]
theorem below_drewN {B : Nat} {a w : World} (h : Below B a w) (n : Nat) : Below B a (w.drewN n) := ⟨h.os, h.tape, h.output, h.size, h.block⟩

set_option maxHeartbeats 400000 in
theorem hp34_any (s p : ByteArray) (w : World) (hs : s.size ≤ 1048576) (hp : p.size ≤ 1048576) :
    Calls Try.prog 34 #[.string s, .string p] w fun e w' => e = .returned (.bool (hpB s p)) ∧ w' = w := by
  by_cases hle : p.size ≤ s.size
  · go_enter Try.func34, Try.ntmps34
    go_wp2
    go_ret
    exact ⟨ret_bool (by unfold hpB; rw [decide_eq_true hle]; simp), rfl⟩
  · go_enter Try.func34, Try.ntmps34
    go_wp2
    go_ret
    exact ⟨ret_bool (by unfold hpB; rw [decide_eq_false hle]; simp), rfl⟩

set_option maxHeartbeats 400000 in
theorem hp_any (s p : ByteArray) (w : World) (hs : s.size ≤ 1048576) (hp : p.size ≤ 1048576) :
    Calls Try.prog 27 #[.string s, .string p] w fun e w' => e = .returned (.bool (hpB s p)) ∧ w' = w := by
  go_enter Try.func27, Try.ntmps27
  go_wp2_with fail
  refine (hp34_any s p w hs hp).mono ?_
  rintro e w' ⟨rfl, rfl⟩
  go_wp2
  go_ret
  exact ⟨rfl, rfl⟩

/-! ### Tag.String -/
set_option maxHeartbeats 400000 in
theorem string_nil (s : ByteArray) (w : World) :
    Calls Try.prog 19 #[.agg #[.pointer none, .string s]] w fun e w' => e = .returned (.string s) ∧ Below w.heap.size w w' := by
  go_enter Try.func19, Try.ntmps19
  go_wp2
  go_ret
  exact ⟨rfl, (Below.refl _ _).alloc (Nat.le_refl _) _⟩

set_option maxHeartbeats 400000 in
theorem string_some (p s : ByteArray) (g : Nat) (w : World) (hs : s.size ≤ 1048576) (hp : p.size ≤ 1048576) (hg : w.cell? ⟨g, 0, none⟩ = some (.string p)) :
    Calls Try.prog 19 #[.agg #[.pointer (some ⟨g, 0, none⟩), .string s]] w fun e w' => e = .returned (.string (p ++ s)) ∧ Below w.heap.size w w' := by
  have hlt : g < w.heap.size := block_lt_of_cell hg
  go_enter Try.func19, Try.ntmps19
  go_wp2
  go_quiet (fail)
  go_wp2
  go_ret
  exact ⟨rfl, below_drewN ((Below.refl _ _).alloc (Nat.le_refl _) _) _⟩
end Go.Proofs.Qxb6003688a
