import Derived.Test.Qxb6003625aRows
import Derived.WalkKit
import Derived.ProofKit
import Derived.OpenShut
import Derived.ShutString
import Derived.ChangeOld
import Derived.Below
import Derived.WalkLawsBesides
import Derived.WalkSpells
import Derived.Outline
import Derived.Deep.RegionWith
import Derived.BigRegion
namespace Go.Proofs.Qxb6003625a
open Go.RowKit
set_option linter.unusedVariables false

/-! ### The plain functions, on the model's own bit operations -/
def step (m c v : Int) : Int := if (bits .and .u32 m c != 0) = true then bits .or .u32 (bits .andNot .u32 m c) v else m
def mapI (r wr e a m : Int) : Int := step (step (step (step m 2147483648 r) 1073741824 wr) 536870912 e) 268435456 a
def clearI (mask c x y : Int) : Int := if (bits .and .u32 mask c != 0) = true then bits .andNot .u32 x y else x
def leftI (mask R W E : Int) : Int := clearI mask 4 (clearI mask 2 (clearI mask 1 (bits .or .u32 R E) W) R) E
def laI (mask : Int) (dom : Bool) (r wr e a : Int) : Int :=
  if dom = true then bits .or .u32 (bits .or .u32 (mapI r wr e a 2147483648) (mapI r wr e a 1073741824)) (mapI r wr e a 536870912)
  else leftI mask (mapI r wr e a 2147483648) (mapI r wr e a 1073741824) (mapI r wr e a 536870912)

def G (r wr e a : Int) : Value := .agg #[.int .u32 r, .int .u32 wr, .int .u32 e, .int .u32 a]

theorem ret_int {k : IntKind} {a b : Int} (h : a = b) : Ending.returned (.int k a) = .returned (.int k b) := by rw [h]

theorem step_yes {m c v : Int} (h : (bits .and .u32 m c != 0) = true) : step m c v = bits .or .u32 (bits .andNot .u32 m c) v := if_pos h
theorem step_no {m c v : Int} (h : (bits .and .u32 m c != 0) = false) : step m c v = m := if_neg (by rw [h]; simp)

set_option maxHeartbeats 800000 in
theorem map_any (r wr e a m : Int) (w : World) :
    Calls Try.prog 10 #[.agg #[.int .u32 r, .int .u32 wr, .int .u32 e, .int .u32 a], .int .u32 m] w fun e' w' => e' = .returned (.int .u32 (mapI r wr e a m)) ∧ w' = w.alloc (.cells #[.int .u32 r, .int .u32 wr, .int .u32 e, .int .u32 a] 25) := by
  go_enter Try.func10, Try.ntmps10
  go_wp2
  all_goals
    go_ret
    refine ⟨ret_int ?_, rfl⟩
    unfold mapI
    first | rw [step_yes (m := m) ‹_›] | rw [step_no (m := m) ‹_›]
    first | rw [step_yes (c := 1073741824) ‹_›] | rw [step_no (c := 1073741824) ‹_›]
    first | rw [step_yes (c := 536870912) ‹_›] | rw [step_no (c := 536870912) ‹_›]
    first | rw [step_yes (c := 268435456) ‹_›] | rw [step_no (c := 268435456) ‹_›]
end Go.Proofs.Qxb6003625a
