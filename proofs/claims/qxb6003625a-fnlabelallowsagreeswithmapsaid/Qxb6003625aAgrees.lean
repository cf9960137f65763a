import Derived.Test.Qxb6003625aRights
namespace Go.Proofs.Qxb6003625a
open Go.RowKit
set_option linter.unusedVariables false

theorem map_below (r wr e a m : Int) (w : World) :
    Calls Try.prog 10 #[.agg #[.int .u32 r, .int .u32 wr, .int .u32 e, .int .u32 a], .int .u32 m] w fun e' w' => e' = .returned (.int .u32 (mapI r wr e a m)) ∧ Below w.heap.size w w' :=
  (map_any r wr e a m w).mono fun e' w' ⟨h, hw⟩ => ⟨h, by rw [hw]; exact (Below.refl _ _).alloc (Nat.le_refl _) _⟩

theorem beq_same {x y : Int} (h : x = y) : (x == y) = true := by rw [h]; simp

set_option maxHeartbeats 1600000 in
theorem agrees_walk (mask : Int) (dom : Bool) (r wr e a : Int) (hm : U mask) (hr : U r) (hw : U wr) (he : U e) (ha : U a) (w : World) :
    Calls Try.prog 4 #[.int .u32 mask, .bool dom, .int .u32 r, .int .u32 wr, .int .u32 e, .int .u32 a] w fun e' w' => e' = .returned (.bool true) ∧ Below w.heap.size w w' := by
  have uR := (imgR_F hr hw he ha).1
  have uW := (imgW_F hw he ha).1
  have uE := (imgE_F he ha).1
  have t1 : (mapI r wr e a 2147483648 != imgR r wr e a) = false := bne_same (mapR hr hw he ha)
  have t2 : (mapI r wr e a 1073741824 != imgW wr e a) = false := bne_same (mapW hr hw he ha)
  have t3 : (mapI r wr e a 536870912 != imgE e a) = false := bne_same (mapE hr hw he ha)
  have t4 : (laI mask true r wr e a == mapI r wr e a 3758096384) = true := beq_same (by rw [la_dom _ hr hw he ha, mapAll hr hw he ha])
  have t5 : (bits .andNot .u32 (laI mask false r wr e a) (mapI r wr e a 2684354560) != 0) = false := bne_same (by rw [la_non _ hr hw he ha, mapRE hr hw he ha, left_within hm uR uW uE])
  have t6 : (laI (bits .andNot .u32 mask 7) false r wr e a == mapI r wr e a 2684354560) = true := beq_same (by rw [la_non _ hr hw he ha, mapRE hr hw he ha, left_none hm uR uW uE])
  clear uR uW uE hm hr hw he ha
  go_enter Try.func4, Try.ntmps4
  go_wp2_with fail
  refine (mapping_any r wr e a w).mono ?_
  rintro e' w1 ⟨rfl, hb1⟩
  go_wp2_with fail
  refine (images_any r wr e a _).mono ?_
  rintro e' w2 ⟨rfl, hw2⟩
  have c2 : w2.cell? ⟨w1.heap.size, 0, none⟩ = some (.int .u32 r) ∧ w2.cell? ⟨w1.heap.size, 1, none⟩ = some (.int .u32 wr) ∧ w2.cell? ⟨w1.heap.size, 2, none⟩ = some (.int .u32 e) ∧ w2.cell? ⟨w1.heap.size, 3, none⟩ = some (.int .u32 a) := by
    rw [hw2]; simp
  have B2 : Below w.heap.size w w2 := by rw [hw2]; exact hb1.alloc hb1.size _
  clear hw2 hb1
  obtain ⟨q0, q1, q2, q3⟩ := c2
  go_wp2_with fail
  refine (map_below r wr e a 2147483648 _).mono ?_
  rintro e' w3 ⟨rfl, hb⟩
  have cc := box_below ⟨q0, q1, q2, q3⟩ hb
  have B3 : Below w.heap.size w w3 := B2.trans (hb.mono B2.size)
  clear hb B2 q0 q1 q2 q3
  obtain ⟨q0, q1, q2, q3⟩ := cc
  go_wp2_with fail
  refine (map_below r wr e a 1073741824 _).mono ?_
  rintro e' w4 ⟨rfl, hb⟩
  have cc := box_below ⟨q0, q1, q2, q3⟩ hb
  have B4 : Below w.heap.size w w4 := B3.trans (hb.mono B3.size)
  clear hb B3 q0 q1 q2 q3
  obtain ⟨q0, q1, q2, q3⟩ := cc
  go_wp2_with fail
  refine (map_below r wr e a 536870912 _).mono ?_
  rintro e' w5 ⟨rfl, hb⟩
  have cc := box_below ⟨q0, q1, q2, q3⟩ hb
  have B5 : Below w.heap.size w w5 := B4.trans (hb.mono B4.size)
  clear hb B4 q0 q1 q2 q3
  obtain ⟨q0, q1, q2, q3⟩ := cc
  go_wp2_with fail
  refine (map_below r wr e a 3758096384 _).mono ?_
  rintro e' w6 ⟨rfl, hb⟩
  have cc := box_below ⟨q0, q1, q2, q3⟩ hb
  have B6 : Below w.heap.size w w6 := B5.trans (hb.mono B5.size)
  clear hb B5 q0 q1 q2 q3
  obtain ⟨q0, q1, q2, q3⟩ := cc
  go_wp2_with fail
  refine (map_below r wr e a 2684354560 _).mono ?_
  rintro e' w7 ⟨rfl, hb⟩
  have cc := box_below ⟨q0, q1, q2, q3⟩ hb
  have B7 : Below w.heap.size w w7 := B6.trans (hb.mono B6.size)
  clear hb B6 q0 q1 q2 q3
  obtain ⟨q0, q1, q2, q3⟩ := cc
  clear t1 t2 t3
  cases dom
  · go_wp2_with fail
    refine (la_any mask false r wr e a _).mono ?_
    rintro e' w8 ⟨rfl, hb⟩
    have cc := box_below ⟨q0, q1, q2, q3⟩ hb
    have B8 : Below w.heap.size w w8 := B7.trans (hb.mono B7.size)
    clear hb B7 q0 q1 q2 q3
    obtain ⟨q0, q1, q2, q3⟩ := cc
    go_wp2_with fail
    refine (la_any (bits .andNot .u32 mask 7) false r wr e a _).mono ?_
    rintro e' w9 ⟨rfl, hb⟩
    have cc := box_below ⟨q0, q1, q2, q3⟩ hb
    have B9 : Below w.heap.size w w9 := B8.trans (hb.mono B8.size)
    clear hb B8 q0 q1 q2 q3
    obtain ⟨q0, q1, q2, q3⟩ := cc
    go_wp2_with fail
    refine (la_any mask true r wr e a _).mono ?_
    rintro e' w10 ⟨rfl, hb⟩
    have cc := box_below ⟨q0, q1, q2, q3⟩ hb
    have B10 : Below w.heap.size w w10 := B9.trans (hb.mono B9.size)
    clear hb B9 q0 q1 q2 q3
    obtain ⟨q0, q1, q2, q3⟩ := cc
    go_wp2
    go_ret
    exact ⟨rfl, B10⟩
  · go_wp2_with fail
    refine (la_any mask true r wr e a _).mono ?_
    rintro e' w8 ⟨rfl, hb⟩
    have cc := box_below ⟨q0, q1, q2, q3⟩ hb
    have B8 : Below w.heap.size w w8 := B7.trans (hb.mono B7.size)
    clear hb B7 q0 q1 q2 q3
    obtain ⟨q0, q1, q2, q3⟩ := cc
    go_wp2
    go_ret
    exact ⟨rfl, B8⟩
end Go.Proofs.Qxb6003625a
