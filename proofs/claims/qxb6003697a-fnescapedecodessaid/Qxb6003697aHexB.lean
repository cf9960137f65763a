import Derived.Test.Qxb6003697aHex
namespace Go.Proofs.Qxb6003697a
open Go.RowKit
set_option linter.unusedVariables false

set_option maxHeartbeats 3200000 in
theorem esc_wide (c u d0 d1 d2 d3 : Int) (w : World) (h0 : 0 ≤ c) (h1 : c < 65536) (hw : ¬ c < 256) (u0 : 0 ≤ u) (u1 : u < 256)
    (e0 : bits .and .u16 (c / 4096) 15 = d0) (e1 : bits .and .u16 (c / 256) 15 = d1) (e2 : bits .and .u16 (c / 16) 15 = d2) (e3 : bits .and .u16 c 15 = d3)
    (a0 : 0 ≤ d0) (b0 : d0 < 16) (a1 : 0 ≤ d1) (b1 : d1 < 16) (a2 : 0 ≤ d2) (b2 : d2 < 16) (a3 : 0 ≤ d3) (b3 : d3 < 16) (hc : Hid (c = 4096 * d0 + 256 * d1 + 16 * d2 + d3)) :
    Calls Try.prog 5 #[.int .u16 c, .int .u8 u, .bool true] w fun e w' => e = .returned (.bool true) ∧ Below w.heap.size w w' := by
  cases f0 : (bits .and .u8 u 1 != 0) <;> cases f1 : (bits .and .u8 u 2 != 0) <;> cases f2 : (bits .and .u8 u 4 != 0) <;> cases f3 : (bits .and .u8 u 8 != 0)
  all_goals
    go_enter Try.func5, Try.ntmps5
    go_wp2
    refine wp_loop_rounds 5 ?_
    rw [rounds_succ]
    go_wp2
    rw [rounds_succ]
    go_wp2
    rw [rounds_succ]
    go_wp2
    rw [rounds_succ]
    go_wp2
    rw [rounds_succ]
    go_wp2
    clear e0 e1 e2 e3 f0 f1 f2 f3
    refine wp_loop_rounds 5 ?_
    rw [rounds_succ]
    go_wp2_with fail
    refine (hex18 _ d0 ?_ _).mono ?_
    · first | exact hexL d0 a0 b0 _ | exact hexU d0 a0 b0 _
    rintro e w1 ⟨rfl, rfl⟩
    go_wp2
    rw [rounds_succ]
    go_wp2_with fail
    refine (hex18 _ d1 ?_ _).mono ?_
    · first | exact hexL d1 a1 b1 _ | exact hexU d1 a1 b1 _
    rintro e w2 ⟨rfl, rfl⟩
    go_wp2
    rw [rounds_succ]
    go_wp2_with fail
    refine (hex18 _ d2 ?_ _).mono ?_
    · first | exact hexL d2 a2 b2 _ | exact hexU d2 a2 b2 _
    rintro e w3 ⟨rfl, rfl⟩
    go_wp2
    rw [rounds_succ]
    go_wp2_with fail
    refine (hex18 _ d3 ?_ _).mono ?_
    · first | exact hexL d3 a3 b3 _ | exact hexU d3 a3 b3 _
    rintro e w4 ⟨rfl, rfl⟩
    go_wp2
    rw [rounds_succ]
    go_wp2
    go_ret
    exact ⟨ret_bool (by have := hc.out; rw [beq_iff_eq]; omega), (Below.refl _ _).alloc (Nat.le_refl _) _⟩
end Go.Proofs.Qxb6003697a
