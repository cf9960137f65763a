import Derived.Test.Qxb6003625aWalks
import Derived.Deep.RegionHeld3
namespace Go.Proofs.Qxb6003625a
open Go.RowKit
set_option linter.unusedVariables false

theorem clearI_yes {m c x y : Int} (h : (bits .and .u32 m c != 0) = true) : clearI m c x y = bits .andNot .u32 x y := if_pos h
theorem clearI_no {m c x y : Int} (h : (bits .and .u32 m c != 0) = false) : clearI m c x y = x := if_neg (by rw [h]; simp)

theorem below_boxes (w : World) (a b c d : Obj) : Below w.heap.size w ((((w.alloc a).alloc b).alloc c).alloc d) :=
  ((((Below.refl _ _).alloc (Nat.le_refl _) _).alloc (by simp) _).alloc (by simp; omega) _).alloc (by simp; omega) _

set_option maxHeartbeats 800000 in
theorem la21_any (mask : Int) (dom : Bool) (r wr e a : Int) (w : World) :
    Calls Try.prog 21 #[.int .u32 mask, .bool dom, .agg #[.int .u32 r, .int .u32 wr, .int .u32 e, .int .u32 a]] w fun e' w' => e' = .returned (.int .u32 (laI mask dom r wr e a)) ∧ Below w.heap.size w w' := by
  cases dom
  · go_enter Try.func21, Try.ntmps21
    go_wp2
    go_region_held3 (fun w' => w'.cell? ⟨w.heap.size, 0, none⟩ = some (.int .u32 r) ∧ w'.cell? ⟨w.heap.size, 1, none⟩ = some (.int .u32 wr) ∧ w'.cell? ⟨w.heap.size, 2, none⟩ = some (.int .u32 e) ∧ w'.cell? ⟨w.heap.size, 3, none⟩ = some (.int .u32 a)) (go_keep) ((go_at_call 10; refine (map_any r wr e a _ _).mono ?_; rintro e' w' ⟨rfl, rfl⟩))
    go_wp2
    all_goals
      go_ret
      refine ⟨ret_int ?_, ?_⟩
      · show _ = leftI mask _ _ _
        unfold leftI
        first | rw [clearI_yes (c := 1) ‹_›] | rw [clearI_no (c := 1) ‹_›]
        first | rw [clearI_yes (c := 2) ‹_›] | rw [clearI_no (c := 2) ‹_›]
        first | rw [clearI_yes (c := 4) ‹_›] | rw [clearI_no (c := 4) ‹_›]
      · exact (below_boxes _ _ _ _ _).drew
  · go_enter Try.func21, Try.ntmps21
    go_wp2
    go_region_held3 (fun w' => w'.cell? ⟨w.heap.size, 0, none⟩ = some (.int .u32 r) ∧ w'.cell? ⟨w.heap.size, 1, none⟩ = some (.int .u32 wr) ∧ w'.cell? ⟨w.heap.size, 2, none⟩ = some (.int .u32 e) ∧ w'.cell? ⟨w.heap.size, 3, none⟩ = some (.int .u32 a)) (go_keep) ((go_at_call 10; refine (map_any r wr e a _ _).mono ?_; rintro e' w' ⟨rfl, rfl⟩))
    go_wp2
    go_ret
    refine ⟨ret_int ?_, ?_⟩
    · rfl
    · exact (below_boxes _ _ _ _ _).drew

set_option maxHeartbeats 400000 in
theorem la19_any (mask : Int) (dom : Bool) (r wr e a : Int) (w : World) :
    Calls Try.prog 19 #[.int .u32 mask, .bool dom, .agg #[.int .u32 r, .int .u32 wr, .int .u32 e, .int .u32 a]] w fun e' w' => e' = .returned (.int .u32 (laI mask dom r wr e a)) ∧ Below w.heap.size w w' := by
  go_enter Try.func19, Try.ntmps19
  go_wp2_with fail
  refine (la21_any mask dom r wr e a _).mono ?_
  rintro e' w' ⟨rfl, hb⟩
  go_wp2
  go_ret
  exact ⟨rfl, ((Below.refl _ _).alloc (Nat.le_refl _) _).trans (hb.mono (by simp))⟩

set_option maxHeartbeats 400000 in
theorem la_any (mask : Int) (dom : Bool) (r wr e a : Int) (w : World) :
    Calls Try.prog 9 #[.int .u32 mask, .bool dom, .agg #[.int .u32 r, .int .u32 wr, .int .u32 e, .int .u32 a]] w fun e' w' => e' = .returned (.int .u32 (laI mask dom r wr e a)) ∧ Below w.heap.size w w' := by
  go_enter Try.func9, Try.ntmps9
  go_wp2_with fail
  refine (la19_any mask dom r wr e a _).mono ?_
  rintro e' w' ⟨rfl, hb⟩
  go_wp2
  go_ret
  exact ⟨rfl, ((Below.refl _ _).alloc (Nat.le_refl _) _).trans (hb.mono (by simp))⟩

set_option maxHeartbeats 400000 in
theorem mapping_any (r wr e a : Int) (w : World) :
    Calls Try.prog 7 #[.int .u32 r, .int .u32 wr, .int .u32 e, .int .u32 a] w fun e' w' => e' = .returned (.agg #[.int .u32 r, .int .u32 wr, .int .u32 e, .int .u32 a]) ∧ Below w.heap.size w w' := by
  go_enter Try.func7, Try.ntmps7
  go_wp2
  exact bodyPost_ret (v := .agg #[.int .u32 r, .int .u32 wr, .int .u32 e, .int .u32 a]) (by simp [results, Try.results7, go_sem]) rfl ⟨rfl, (Below.refl _ _).alloc (Nat.le_refl _) _⟩
end Go.Proofs.Qxb6003625a
