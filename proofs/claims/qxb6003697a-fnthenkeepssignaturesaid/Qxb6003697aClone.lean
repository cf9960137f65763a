import Derived.Test.Qxb6003697aStrs
namespace Go.Proofs.Qxb6003697a
open Go.RowKit
set_option linter.unusedVariables false

theorem Try.info9 : (Try.prog.info? 9).map (fun i => (i.zero, i.size, i.bytes)) = some (some (.string ByteArray.empty), 1, 16) := by kernel_rfl

theorem hmake (n : Nat) (hn : n ≤ 1048576) (w : World) :
    (Instr.makeSlice 22 (.int .i64 (n : Int)) (.int .i64 (n : Int))).run Try.prog w = .ok (.slice (some ⟨w.heap.size, 0, none⟩) n n) (w.alloc (.cells (madeCells #[.string ByteArray.empty] n) 9)) := by
  obtain ⟨i, hi, hz⟩ := Option.map_eq_some_iff.1 Try.info9
  simp only [Prod.mk.injEq] at hz
  obtain ⟨h0, h1, h2⟩ := hz
  have hr := run_make (P := Try.prog) w 22 9 i (.string ByteArray.empty) Try.underlying22 hi h0 .i64 .i64 n n (by omega) (Int.le_refl _) (by rw [h2]; omega) (by omega)
  simpa [h1, Value.cells] using hr

/-- Block B holds n strings, the first k of them ss's. -/
def Part (w : World) (B n k : Nat) (ss : List ByteArray) : Prop :=
  ∃ cs : Array Value, w.heap[B]? = some (.cells cs 9 (0, 0)) ∧ cs.size = n ∧ (∀ j, j < n → ∃ v, cs[j]? = some (.string v)) ∧ ∀ j, j < k → cs[j]? = some (.string (sAt ss j))

theorem part_zero (w : World) (n : Nat) (ss : List ByteArray) : Part (w.alloc (.cells (madeCells #[.string ByteArray.empty] n) 9)) w.heap.size n 0 ss := by
  refine ⟨_, heap_alloc_new _ _, size_madeCells _ _, fun j hj => ⟨ByteArray.empty, ?_⟩, fun j hj => absurd hj (by omega)⟩
  simp [madeCells, hj, Nat.mod_one]

theorem part_cell {w : World} {B n k : Nat} {ss : List ByteArray} (h : Part w B n k ss) (hk : k < n) : (∃ v, w.cell? ⟨B, k, none⟩ = some (.string v)) ∧ w.frozen? ⟨B, k, none⟩ = false := by
  obtain ⟨cs, hh, hs, hv, _⟩ := h
  obtain ⟨v, hv⟩ := hv k hk
  exact ⟨⟨v, by rw [cell_of_row w B k cs 9 _ hh]; exact hv⟩, frozen_of_row w B k cs 9 hh⟩

theorem part_step {w : World} {B n k : Nat} {ss : List ByteArray} (h : Part w B n k ss) (hk : k < n) : Part (w.setCell ⟨B, k, none⟩ (.string (sAt ss k))) B n (k + 1) ss := by
  obtain ⟨cs, hh, hs, hv, hz⟩ := h
  refine ⟨_, heap_setCell_same w B k cs 9 _ hh, by simpa using hs, fun j hj => ?_, fun j hj => ?_⟩
  · rw [Array.getElem?_setIfInBounds]
    by_cases e : k = j
    · subst e; rw [if_pos rfl, if_pos (by omega)]; exact ⟨_, rfl⟩
    · rw [if_neg e]; exact hv j hj
  · rw [Array.getElem?_setIfInBounds]
    by_cases e : k = j
    · subst e; rw [if_pos rfl, if_pos (by omega)]
    · rw [if_neg e]; exact hz j (by omega)

theorem part_row {w : World} {B n : Nat} {ss : List ByteArray} (h : Part w B n ss.length ss) : SRow w (some ⟨B, 0, none⟩) ss := by
  obtain ⟨cs, hh, hs, hv, hz⟩ := h
  refine Or.inr ⟨B, 0, rfl, fun i hi => ?_⟩
  rw [cell_of_row w B _ cs 9 _ hh]
  simpa using hz i hi

set_option maxHeartbeats 400000 in
theorem clone10 (x : Addr) (cap : Nat) (ss : List ByteArray) (w : World) (hr : SRow w (some x) ss) (hn : ss.length ≤ 1048576) :
    Calls Try.prog 10 #[.slice (some x) ss.length cap] w fun e w' => e = .returned (.slice (some ⟨w.heap.size, 0, none⟩) ss.length ss.length) ∧ SRow w' (some ⟨w.heap.size, 0, none⟩) ss ∧ Below w.heap.size w w' := by
  have hnil : ∀ w, (binOp .eql 22 (.slice (some x) ss.length cap) (.slice none 0 0)).run Try.prog w = .ok (.bool false) w := fun w => by
    simpa using Lib.run_eql_slice_nil (P := Try.prog) w 22 9 (some x) ss.length cap 0 0 Try.underlying22
  have hmk := hmake ss.length hn
  go_enter Try.func10, Try.ntmps10
  go_wp2
  go_loopw [4] (fun i wr => ∃ k : Nat, k ≤ ss.length ∧ i = .int .i64 k ∧ Part wr w.heap.size ss.length k ss ∧ Below w.heap.size w wr) (fun i _ => ss.length - (intOf i).toNat)
  case atStart => exact ⟨0, Nat.zero_le _, rfl, part_zero w ss.length ss, (Below.refl _ _).alloc (Nat.le_refl _) _⟩
  case round =>
    obtain ⟨k, hk, rfl, hp, hbl⟩ := hrel
    by_cases hlt : k < ss.length
    · obtain ⟨b, off, hx, hcell⟩ := srow_at hr hlt
      obtain rfl : x = ⟨b, off, none⟩ := by simpa using hx
      have hc := (hbl.cell (p := ⟨b, off + k, none⟩) (block_lt_of_cell (hcell k hlt))).trans (hcell k hlt)
      obtain ⟨⟨v, hv⟩, hf⟩ := part_cell hp hlt
      have hs := part_step hp hlt
      have hbl' := hbl.setCell (p := ⟨w.heap.size, k, none⟩) (Nat.le_refl _) (.string (sAt ss k))
      have HS : Hid (Part _ _ _ _ _ ∧ Below _ _ _) := ⟨hs, hbl'⟩
      clear hs hbl' hp hbl
      obtain ⟨z, hz⟩ : ∃ z, z = sAt ss k := ⟨_, rfl⟩
      rw [← hz] at hc HS
      clear hcell hr hz hx
      go_wp2
      go_roundw
      case rel => exact ⟨k + 1, by omega, by go_num, HS.out.1, HS.out.2⟩
      case measure => simp [intOf]; omega
    · obtain rfl : k = ss.length := by omega
      go_wp2
      go_ret
      exact ⟨rfl, part_row hp, hbl⟩

/-! ### ZZErrorLines -/
set_option maxHeartbeats 400000 in
theorem lines11 (a : Option Addr) (n cap : Nat) (s : ByteArray) (w : World) :
    Calls Try.prog 11 #[.slice a n cap, .string s] w fun e w' => e = .returned (.agg #[.slice a n cap, .string s]) ∧ w' = w.alloc (.cells #[.slice a n cap, .string s] 28) := by
  go_enter Try.func11, Try.ntmps11
  go_wp2
  exact bodyPost_ret (v := .agg #[.slice a n cap, .string s]) (by simp [results, Try.results11, go_sem]) rfl ⟨rfl, rfl⟩
end Go.Proofs.Qxb6003697a
