import Derived.Test.Qxb6003697aClone
import Derived.Lib.AppendZeros
namespace Go.Proofs.Qxb6003697a
open Go.RowKit
set_option linter.unusedVariables false

theorem size_zero1 (v : Value) (hv : v.cells = #[v]) (n : Nat) : (Builtin.zeroCells v.cells n).size = n := by
  rw [hv]; simp [Builtin.zeroCells]

set_option maxHeartbeats 800000 in
theorem grow27 (n : Nat) (h0 : 0 < n) (hn : n ≤ 2097152) (w : World) :
    Calls Try.prog 27 #[.slice none 0 0, .int .i64 n] w fun e w' => ∃ G, e = .returned (.slice (some ⟨w.heap.size, 0, none⟩) 0 G) ∧
      w'.ownsRow w.heap.size 9 1 (.slice (some ⟨w.heap.size, 0, none⟩) 0 G) 0 [] ∧ Below w.heap.size w w' := by
  obtain ⟨i, hi, hz⟩ := Option.map_eq_some_iff.1 Try.info9
  simp only [Prod.mk.injEq] at hz
  obtain ⟨z0, z1, z2⟩ := hz
  have hrz : ∀ ty, (Builtin.append_ #[22, 3] ty #[.slice none 0 0, .int .i64 (n : Int)]).run Try.prog w =
      .ok (.slice (some ⟨w.heap.size, 0, none⟩) n (grownCap w n 0 9)) (w.drew.alloc (.cells (Builtin.zeroCells (Value.string ByteArray.empty).cells n ++ Builtin.zeroCells (Value.string ByteArray.empty).cells (grownCap w n 0 9 - n)) 9)) := fun ty =>
    Lib.run_append_nil_zeros w 22 3 ty 9 i (.string ByteArray.empty) .i64 .i64 Try.underlying22 Try.underlying3 hi z0 n h0 (by omega) (by omega) (by rw [z2]; omega)
  have hG := grownCap_ge w n 0 9
  have hM := grownCap_le_maxLen w n 0 9 (by unfold maxLen; omega)
  obtain ⟨G, hGe⟩ : ∃ G, G = grownCap w n 0 9 := ⟨_, rfl⟩
  rw [← hGe] at hrz hG hM
  have hown : (w.drew.alloc (.cells (Builtin.zeroCells (Value.string ByteArray.empty).cells n ++ Builtin.zeroCells (Value.string ByteArray.empty).cells (G - n)) 9)).ownsRow w.heap.size 9 1 (.slice (some ⟨w.heap.size, 0, none⟩) 0 G) 0 [] :=
    ⟨rfl, Or.inr ⟨w.heap.size, G, _, rfl, Nat.le_refl _, heap_alloc_new w.drew _, Nat.zero_le _, hM, by rw [Array.size_append, size_zero1 _ rfl, size_zero1 _ rfl]; omega, rfl⟩⟩
  have hbel : Below w.heap.size w (w.drew.alloc (.cells (Builtin.zeroCells (Value.string ByteArray.empty).cells n ++ Builtin.zeroCells (Value.string ByteArray.empty).cells (G - n)) 9)) := ((Below.refl _ _).drew).alloc (Nat.le_refl _) _
  obtain ⟨w1, hw1⟩ : ∃ w1, w1 = w.drew.alloc (.cells (Builtin.zeroCells (Value.string ByteArray.empty).cells n ++ Builtin.zeroCells (Value.string ByteArray.empty).cells (G - n)) 9) := ⟨_, rfl⟩
  rw [← hw1] at hrz hown hbel
  have HH : Hid (w1.ownsRow w.heap.size 9 1 (.slice (some ⟨w.heap.size, 0, none⟩) 0 G) 0 [] ∧ Below w.heap.size w w1) := ⟨hown, hbel⟩
  clear hw1 hGe hown hbel hi z0 z1 z2
  have HM : G ≤ 9223372036854775807 := by unfold maxLen at hM; exact hM
  clear hM
  go_enter Try.func27, Try.ntmps27
  go_wp2_with (at_builtin; refine Lib.wpList_append_run _ rfl _ _ _ _ rfl _ _ rfl rfl _ _ (hrz _) ?_)
  go_ret
  exact ⟨G, rfl, HH.out⟩
end Go.Proofs.Qxb6003697a
