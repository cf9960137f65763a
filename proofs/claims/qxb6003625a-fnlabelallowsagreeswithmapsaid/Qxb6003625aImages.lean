import Derived.Test.Qxb6003625aWalks
namespace Go.Proofs.Qxb6003625a
open Go.RowKit
set_option linter.unusedVariables false

/-- 'if t&c != 0 { x |= y }' -/
def orIf (t c x y : Int) : Int := if (bits .and .u32 t c != 0) = true then bits .or .u32 x y else x
def imgE (e a : Int) : Int := orIf e 268435456 (bits .andNot .u32 e 268435456) a
def imgW (wr e a : Int) : Int := orIf wr 268435456 (orIf wr 536870912 (bits .andNot .u32 wr 805306368) (imgE e a)) a
def imgR (r wr e a : Int) : Int := orIf r 268435456 (orIf r 536870912 (orIf r 1073741824 (bits .andNot .u32 r 1879048192) (imgW wr e a)) (imgE e a)) a

theorem orIf_yes {t c x y : Int} (h : (bits .and .u32 t c != 0) = true) : orIf t c x y = bits .or .u32 x y := if_pos h
theorem orIf_no {t c x y : Int} (h : (bits .and .u32 t c != 0) = false) : orIf t c x y = x := if_neg (by rw [h]; simp)

theorem ret_three {a b c a' b' c' : Int} (h : (a, b, c) = (a', b', c')) : Ending.returned (.tuple #[.int .u32 a, .int .u32 b, .int .u32 c]) = .returned (.tuple #[.int .u32 a', .int .u32 b', .int .u32 c']) := by
  simp only [Prod.mk.injEq] at h
  obtain ⟨rfl, rfl, rfl⟩ := h
  rfl

set_option maxHeartbeats 1600000 in
theorem images_any (r wr e a : Int) (w : World) :
    Calls Try.prog 8 #[.int .u32 r, .int .u32 wr, .int .u32 e, .int .u32 a] w fun e' w' => e' = .returned (.tuple #[.int .u32 (imgR r wr e a), .int .u32 (imgW wr e a), .int .u32 (imgE e a)]) ∧ w' = w := by
  go_enter Try.func8, Try.ntmps8
  go_wp2
  all_goals
    go_ret3
    refine ⟨ret_three ?_, rfl⟩
    unfold imgR imgW imgE
    first | rw [orIf_yes (t := e) (c := 268435456) ‹_›] | rw [orIf_no (t := e) (c := 268435456) ‹_›]
    first | rw [orIf_yes (t := wr) (c := 536870912) ‹_›] | rw [orIf_no (t := wr) (c := 536870912) ‹_›]
    first | rw [orIf_yes (t := wr) (c := 268435456) ‹_›] | rw [orIf_no (t := wr) (c := 268435456) ‹_›]
    first | rw [orIf_yes (t := r) (c := 1073741824) ‹_›] | rw [orIf_no (t := r) (c := 1073741824) ‹_›]
    first | rw [orIf_yes (t := r) (c := 536870912) ‹_›] | rw [orIf_no (t := r) (c := 536870912) ‹_›]
    first | rw [orIf_yes (t := r) (c := 268435456) ‹_›] | rw [orIf_no (t := r) (c := 268435456) ‹_›]
end Go.Proofs.Qxb6003625a
