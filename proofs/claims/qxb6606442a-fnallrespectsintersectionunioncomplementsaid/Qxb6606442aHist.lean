import Derived.Test.Qxb6606442aWalks
namespace Go.Proofs.Qxb6606442a
open Go.RowKit
set_option linter.unusedVariables false

theorem Try.info22 : (Try.prog.info? 22).map (·.size) = some 256 := by kernel_rfl

set_option maxHeartbeats 400000 in
theorem clone_nil (w : World) : Calls Try.prog 7 #[.slice none 0 0] w fun e w' => e = .returned (.slice none 0 0) ∧ w' = w := by
  have hnil : ∀ w, (binOp .eql 23 (.slice none 0 0) (.slice none 0 0)).run Try.prog w = .ok (.bool true) w := fun w => by
    simpa using Lib.run_eql_slice_nil (P := Try.prog) w 23 5 none 0 0 0 0 Try.underlying23
  go_enter Try.func7, Try.ntmps7
  go_wp2
  go_ret
  exact ⟨rfl, rfl⟩

theorem clone_any (a : Option Addr) (cap : Nat) (zs : List Int) (w : World) (h0 : a = none → zs = [] ∧ cap = 0) (hr : Row w a zs) (hn : zs.length ≤ 1048576) :
    Calls Try.prog 7 #[.slice a zs.length cap] w fun e w' => ∃ a' cap', e = .returned (.slice a' zs.length cap') ∧ Row w' a' zs ∧ Below w.heap.size w w' := by
  cases a with
  | none =>
    obtain ⟨rfl, rfl⟩ := h0 rfl
    exact (clone_nil w).mono fun e w' ⟨he, hw⟩ => ⟨none, 0, he, Or.inl rfl, by subst hw; exact Below.refl _ _⟩
  | some x => exact (clone_some x cap zs w hr hn).mono fun e w' ⟨he, hrow, hb⟩ => ⟨_, _, he, hrow, hb⟩

theorem cls_below {w w' : World} {g : Nat} {c : Nat → Bool} (h : Cls w g c) (hb : Below w.heap.size w w') : Cls w' g c :=
  fun i hi => (hb.cell (p := ⟨g, i, none⟩) (block_lt_of_cell (h i hi))).trans (h i hi)
theorem cls_lt {w : World} {g : Nat} {c : Nat → Bool} (h : Cls w g c) : g < w.heap.size := block_lt_of_cell (h 0 (by omega))
theorem cls_box (w : World) (xs : Array Value) (c : Nat → Bool) (hc : ∀ i, i < 256 → xs[i]? = some (.bool (c i))) : Cls (w.alloc (.cells xs 22)) w.heap.size c := fun i hi => by
  rw [cell_of_row _ _ i xs 22 (0, 0) (heap_alloc_new _ _)]; exact hc i hi

/-! ### An array of 256 bools that the call makes -/
def zeros : Array Value := Array.replicate 256 (.bool false)
theorem Try.zero22 : (Try.prog.info? 22).map (·.zero) = some (some (.agg zeros)) := by kernel_rfl

theorem wpList_alloc22 {ops : Array Oper} {rest : List Oper} {o : Oper} {a : Act} {w : World} {Q : Exit → Act → World → Prop} (hgd : o.guard = none) (ho : o.op = .alloc 22)
    (h : wpList Try.prog ops Q rest (a.put o.dst (.pointer (some ⟨w.heap.size, 0, none⟩))) (w.alloc (.cells zeros 22))) : wpList Try.prog ops Q (o :: rest) a w :=
  wpList_plain hgd fun K hK => by
    obtain ⟨i, hi, hz⟩ := Option.map_eq_some_iff.1 Try.zero22
    unfold Oper.wp execOp
    simp [ho, Instr.alloc, zeroValue, typeInfo, hi, hz, newVar, newRow, Value.cells]
    exact hK _ _ h

set_option maxHeartbeats 400000 in
theorem size6_small (xs : Array Value) (hx : xs.size = 256) (a : Option Addr) (n cap : Nat) (w : World) (hn : n ≤ 1048576) :
    Calls Try.prog 6 #[.agg xs, .slice a n cap] w fun e w' => e = .returned (.bool true) ∧ Below w.heap.size w w' := by
  go_enter Try.func6, Try.ntmps6
  go_wp2
  go_ret
  exact ⟨rfl, (Below.refl _ _).alloc (Nat.le_refl _) _⟩


set_option maxHeartbeats 400000 in
theorem size6_big (xs : Array Value) (hx : xs.size = 256) (a : Option Addr) (n cap : Nat) (w : World) (hn : ¬ n ≤ 1048576) (hm : n ≤ maxLen) :
    Calls Try.prog 6 #[.agg xs, .slice a n cap] w fun e w' => e = .returned (.bool false) ∧ Below w.heap.size w w' := by
  unfold maxLen at hm
  go_enter Try.func6, Try.ntmps6
  go_wp2
  go_ret
  exact ⟨rfl, (Below.refl _ _).alloc (Nat.le_refl _) _⟩

set_option maxHeartbeats 400000 in
theorem hist_big (xs : Array Value) (hx : xs.size = 256) (a : Option Addr) (n cap : Nat) (w : World) (hn : ¬ n ≤ 1048576) (hm : n ≤ maxLen) :
    Calls Try.prog 3 #[.agg xs, .slice a n cap] w fun e w' => e = .returned (.bool true) ∧ Below w.heap.size w w' := by
  have hi : (Try.prog.info? 22).map (·.size) = some xs.size := by rw [hx]; exact Try.info22
  have hg1 := heap_alloc_new w (.cells xs 22 (0, 0))
  go_enter Try.func3, Try.ntmps3
  go_wp2_with (first | (go_at_call 6; refine (size6_big xs hx a n cap _ hn hm).mono ?_; rintro e w' ⟨rfl, hb⟩) | (refine wpList_load_row rfl 22 _ rfl w.heap.size rfl 22 xs (0, 0) _ hg1 Try.underlying22 rfl hi ?_))
  go_ret
  exact ⟨rfl, ((Below.refl _ _).alloc (Nat.le_refl _) _).trans (hb.mono (by simp))⟩
end Go.Proofs.Qxb6606442a
