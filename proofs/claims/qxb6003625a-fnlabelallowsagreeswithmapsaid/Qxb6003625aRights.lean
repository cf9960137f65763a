import Derived.Test.Qxb6003625aLabel
import Derived.Test.Qxb6003625aLaw
namespace Go.Proofs.Qxb6003625a
open Go.RowKit
set_option linter.unusedVariables false

theorem box_below {W w' : World} {B : Nat} {v0 v1 v2 v3 : Value}
    (h : W.cell? ⟨B, 0, none⟩ = some v0 ∧ W.cell? ⟨B, 1, none⟩ = some v1 ∧ W.cell? ⟨B, 2, none⟩ = some v2 ∧ W.cell? ⟨B, 3, none⟩ = some v3) (hb : Below W.heap.size W w') :
    w'.cell? ⟨B, 0, none⟩ = some v0 ∧ w'.cell? ⟨B, 1, none⟩ = some v1 ∧ w'.cell? ⟨B, 2, none⟩ = some v2 ∧ w'.cell? ⟨B, 3, none⟩ = some v3 := by
  have hB : B < W.heap.size := block_lt_of_cell h.1
  exact ⟨(hb.cell (p := ⟨B, 0, none⟩) hB).trans h.1, (hb.cell (p := ⟨B, 1, none⟩) hB).trans h.2.1, (hb.cell (p := ⟨B, 2, none⟩) hB).trans h.2.2.1, (hb.cell (p := ⟨B, 3, none⟩) hB).trans h.2.2.2⟩

theorem box5 {w W w' : World} {B : Nat} {v0 v1 v2 v3 : Value}
    (h : W.cell? ⟨B, 0, none⟩ = some v0 ∧ W.cell? ⟨B, 1, none⟩ = some v1 ∧ W.cell? ⟨B, 2, none⟩ = some v2 ∧ W.cell? ⟨B, 3, none⟩ = some v3 ∧ Below w.heap.size w W) (hb : Below W.heap.size W w') :
    w'.cell? ⟨B, 0, none⟩ = some v0 ∧ w'.cell? ⟨B, 1, none⟩ = some v1 ∧ w'.cell? ⟨B, 2, none⟩ = some v2 ∧ w'.cell? ⟨B, 3, none⟩ = some v3 ∧ Below w.heap.size w w' := by
  obtain ⟨a, b, c, d⟩ := box_below ⟨h.1, h.2.1, h.2.2.1, h.2.2.2.1⟩ hb
  exact ⟨a, b, c, d, h.2.2.2.2.trans (hb.mono h.2.2.2.2.size)⟩

theorem bne_same {x y : Int} (h : x = y) : (x != y) = false := by rw [h]; simp

set_option maxHeartbeats 1600000 in
theorem rights_walk (mask : Int) (dom : Bool) (other r wr e a : Int) (hm : U mask) (ho : U other) (hr : U r) (hw : U wr) (he : U e) (ha : U a) (w : World) :
    Calls Try.prog 3 #[.int .u32 mask, .bool dom, .int .u32 other, .int .u32 r, .int .u32 wr, .int .u32 e, .int .u32 a] w fun e' w' => e' = .returned (.bool true) ∧ Below w.heap.size w w' := by
  have uR := (imgR_F hr hw he ha).1
  have uW := (imgW_F hw he ha).1
  have uE := (imgE_F he ha).1
  have t1 : (laI mask true r wr e a != bits .or .u32 (bits .or .u32 (imgR r wr e a) (imgW wr e a)) (imgE e a)) = false := bne_same (la_dom mask hr hw he ha)
  have t2 : (laI other true r wr e a != laI mask true r wr e a) = false := bne_same (by rw [la_dom _ hr hw he ha, la_dom _ hr hw he ha])
  have t3 : (laI (bits .andNot .u32 mask 7) false r wr e a != bits .or .u32 (imgR r wr e a) (imgE e a)) = false := bne_same (by rw [la_non _ hr hw he ha, left_none hm uR uW uE])
  have t4 : (laI 1 false r wr e a != bits .andNot .u32 (bits .or .u32 (imgR r wr e a) (imgE e a)) (imgW wr e a)) = false := bne_same (by rw [la_non _ hr hw he ha, left_1 uR uW uE])
  have t5 : (laI 2 false r wr e a != bits .andNot .u32 (imgE e a) (imgR r wr e a)) = false := bne_same (by rw [la_non _ hr hw he ha, left_2 uR uW uE])
  have t6 : (laI 4 false r wr e a != bits .andNot .u32 (imgR r wr e a) (imgE e a)) = false := bne_same (by rw [la_non _ hr hw he ha, left_4 uR uW uE])
  have t7 : (laI (bits .or .u32 mask other) false r wr e a != bits .and .u32 (laI mask false r wr e a) (laI other false r wr e a)) = false := bne_same (by rw [la_non _ hr hw he ha, la_non _ hr hw he ha, la_non _ hr hw he ha, left_or hm ho uR uW uE])
  have t8 : (laI (bits .and .u32 mask 7) false r wr e a != laI mask false r wr e a) = false := bne_same (by rw [la_non _ hr hw he ha, la_non _ hr hw he ha, left_low hm uR uW uE])
  clear uR uW uE hm ho hr hw he ha
  go_enter Try.func3, Try.ntmps3
  go_wp2_with fail
  refine (mapping_any r wr e a w).mono ?_
  rintro e' w1 ⟨rfl, hb1⟩
  go_wp2_with fail
  refine (images_any r wr e a _).mono ?_
  rintro e' w2 ⟨rfl, hw2⟩
  have c2 : w2.cell? ⟨w1.heap.size, 0, none⟩ = some (.int .u32 r) ∧ w2.cell? ⟨w1.heap.size, 1, none⟩ = some (.int .u32 wr) ∧ w2.cell? ⟨w1.heap.size, 2, none⟩ = some (.int .u32 e) ∧ w2.cell? ⟨w1.heap.size, 3, none⟩ = some (.int .u32 a) := by
    rw [hw2]; simp
  have B2 : Below w.heap.size w w2 := by rw [hw2]; exact hb1.alloc hb1.size _
  clear hw2 hb1
  obtain ⟨q0, q1, q2, q3⟩ := c2
  go_wp2_with fail
  refine (la_any mask true r wr e a _).mono ?_
  rintro e' w3 ⟨rfl, hb⟩
  have cc := box_below ⟨q0, q1, q2, q3⟩ hb
  have B3 : Below w.heap.size w w3 := B2.trans (hb.mono B2.size)
  clear hb B2 q0 q1 q2 q3
  obtain ⟨q0, q1, q2, q3⟩ := cc
  go_wp2_with fail
  refine (la_any other true r wr e a _).mono ?_
  rintro e' w4 ⟨rfl, hb⟩
  have cc := box_below ⟨q0, q1, q2, q3⟩ hb
  have B4 : Below w.heap.size w w4 := B3.trans (hb.mono B3.size)
  clear hb B3 q0 q1 q2 q3
  obtain ⟨q0, q1, q2, q3⟩ := cc
  go_wp2_with fail
  refine (la_any (bits .andNot .u32 mask 7) false r wr e a _).mono ?_
  rintro e' w5 ⟨rfl, hb⟩
  have cc := box_below ⟨q0, q1, q2, q3⟩ hb
  have B5 : Below w.heap.size w w5 := B4.trans (hb.mono B4.size)
  clear hb B4 q0 q1 q2 q3
  obtain ⟨q0, q1, q2, q3⟩ := cc
  go_wp2_with fail
  refine (la_any 1 false r wr e a _).mono ?_
  rintro e' w6 ⟨rfl, hb⟩
  have cc := box_below ⟨q0, q1, q2, q3⟩ hb
  have B6 : Below w.heap.size w w6 := B5.trans (hb.mono B5.size)
  clear hb B5 q0 q1 q2 q3
  obtain ⟨q0, q1, q2, q3⟩ := cc
  go_wp2_with fail
  refine (la_any 2 false r wr e a _).mono ?_
  rintro e' w7 ⟨rfl, hb⟩
  have cc := box_below ⟨q0, q1, q2, q3⟩ hb
  have B7 : Below w.heap.size w w7 := B6.trans (hb.mono B6.size)
  clear hb B6 q0 q1 q2 q3
  obtain ⟨q0, q1, q2, q3⟩ := cc
  go_wp2_with fail
  refine (la_any 4 false r wr e a _).mono ?_
  rintro e' w8 ⟨rfl, hb⟩
  have cc := box_below ⟨q0, q1, q2, q3⟩ hb
  have B8 : Below w.heap.size w w8 := B7.trans (hb.mono B7.size)
  clear hb B7 q0 q1 q2 q3
  obtain ⟨q0, q1, q2, q3⟩ := cc
  go_wp2_with fail
  refine (la_any mask false r wr e a _).mono ?_
  rintro e' w9 ⟨rfl, hb⟩
  have cc := box_below ⟨q0, q1, q2, q3⟩ hb
  have B9 : Below w.heap.size w w9 := B8.trans (hb.mono B8.size)
  clear hb B8 q0 q1 q2 q3
  obtain ⟨q0, q1, q2, q3⟩ := cc
  go_wp2_with fail
  clear t1 t2 t3 t4 t5 t6
  go_region_held3 (fun w' => w'.cell? ⟨w1.heap.size, 0, none⟩ = some (.int .u32 r) ∧ w'.cell? ⟨w1.heap.size, 1, none⟩ = some (.int .u32 wr) ∧ w'.cell? ⟨w1.heap.size, 2, none⟩ = some (.int .u32 e) ∧ w'.cell? ⟨w1.heap.size, 3, none⟩ = some (.int .u32 a) ∧ Below w.heap.size w w') (first | exact ⟨q0, q1, q2, q3, B9.drew⟩ | assumption) ((go_at_call 9; refine (la_any _ _ r wr e a _).mono ?_; rintro e' w' ⟨rfl, hb⟩; have g := box5 (by assumption) hb; clear hb))
  clear q0 q1 q2 q3 B9
  obtain ⟨q0, q1, q2, q3, B10⟩ := g
  go_wp2_with fail
  refine (la_any (bits .and .u32 mask 7) false r wr e a _).mono ?_
  rintro e' w11 ⟨rfl, hb⟩
  have cc := box_below ⟨q0, q1, q2, q3⟩ hb
  have B11 : Below w.heap.size w w11 := B10.trans (hb.mono B10.size)
  clear hb B10 q0 q1 q2 q3
  obtain ⟨q0, q1, q2, q3⟩ := cc
  cases dom
  all_goals
    go_wp2_with fail
    refine (la_any mask _ r wr e a _).mono ?_
    rintro e' w12 ⟨rfl, hb⟩
    have B12 : Below w.heap.size w w12 := B11.trans (hb.mono B11.size)
    clear hb B11 q0 q1 q2 q3
    go_wp2
    go_ret
    exact ⟨by simp, B12⟩
end Go.Proofs.Qxb6003625a
