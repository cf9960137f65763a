import Derived.Test.Qxb6606442aRows
import Derived.WalkKit
import Derived.ProofKit
import Derived.ShutString
import Derived.ChangeOld
import Derived.Below
import Derived.WalkLawsBesides
import Derived.WalkSpells
import Derived.Outline
namespace Go.Proofs.Qxb6606442a
open Go.RowKit
set_option linter.unusedVariables false

/-- The bytes zs lie at the slice's address a (an empty row asks nothing). -/
def Row (w : World) (a : Option Addr) (zs : List Int) : Prop :=
  zs = [] ∨ ∃ b off, a = some ⟨b, off, none⟩ ∧ ∀ i, i < zs.length → w.cell? ⟨b, off + i, none⟩ = some (.int .u8 (zs.getD i 0))
/-- Each number is a byte. -/
def Bytes (zs : List Int) : Prop := ∀ i, 0 ≤ zs.getD i 0 ∧ zs.getD i 0 < 256
/-- The 256 bools c lie at block g. -/
def Cls (w : World) (g : Nat) (c : Nat → Bool) : Prop := ∀ i, i < 256 → w.cell? ⟨g, i, none⟩ = some (.bool (c i))

def allB (c : Nat → Bool) (zs : List Int) : Bool := zs.all fun z => c z.toNat

theorem allB_snoc (c : Nat → Bool) (zs : List Int) (k : Nat) (h : k < zs.length) : allB c (zs.take (k + 1)) = (allB c (zs.take k) && c (zs.getD k 0).toNat) := by
  unfold allB
  rw [List.take_succ_eq_append_getElem h, List.all_append]
  simp only [List.all_cons, List.all_nil, Bool.and_true, List.getD_eq_getElem?_getD, List.getElem?_eq_getElem h, Option.getD_some]
theorem allB_false (c : Nat → Bool) (zs : List Int) (k : Nat) (h : k < zs.length) (hc : c (zs.getD k 0).toNat = false) : allB c zs = false := by
  unfold allB
  rw [List.all_eq_false]
  refine ⟨zs.getD k 0, ?_, by simpa using hc⟩
  simp [List.getD_eq_getElem?_getD, h]
theorem allB_whole (c : Nat → Bool) (zs : List Int) (k : Nat) (h : ¬ k < zs.length) (hc : allB c (zs.take k) = true) : allB c zs = true := by
  rwa [List.take_of_length_le (by omega)] at hc

theorem ret_bool {a b : Bool} (h : a = b) : Ending.returned (.bool a) = .returned (.bool b) := by rw [h]

set_option maxHeartbeats 400000 in
theorem all_any (g : Nat) (c : Nat → Bool) (a : Option Addr) (cap : Nat) (zs : List Int) (w : World) (hg : Cls w g c) (hr : Row w a zs) (hb : Bytes zs) (hn : zs.length ≤ 1048576) :
    Calls Try.prog 11 #[.pointer (some ⟨g, 0, none⟩), .slice a zs.length cap] w fun e w' => e = .returned (.bool (allB c zs)) ∧ w' = w := by
  go_enter Try.func11, Try.ntmps11
  go_wp2
  go_loop [6, 9] (fun _ i => ∃ k : Nat, k ≤ zs.length ∧ i = .int .i64 k ∧ allB c (zs.take k) = true) (fun _ i => zs.length - (intOf i).toNat)
  case atStart => exact ⟨0, Nat.zero_le _, rfl, rfl⟩
  case round =>
    obtain ⟨k, hk, rfl, hall⟩ := hrel
    have HA : Hid (allB c (zs.take k) = true) := hall
    clear hall
    by_cases hlt : k < zs.length
    · obtain ⟨b, off, rfl, hcell⟩ : ∃ b off, a = some ⟨b, off, none⟩ ∧ ∀ i, i < zs.length → w.cell? ⟨b, off + i, none⟩ = some (.int .u8 (zs.getD i 0)) := by
        rcases hr with h | h
        · subst h; simp at hlt
        · exact h
      have hc := hcell k hlt
      obtain ⟨z, hz⟩ : ∃ z, z = zs.getD k 0 := ⟨_, rfl⟩
      have hb1 := (hb k).1
      have hb2 := (hb k).2
      rw [← hz] at hc hb1 hb2
      have hcl := hg z.toNat (by omega)
      have HZ : Hid (z = zs.getD k 0) := hz
      clear hz hcell
      cases hcz : c z.toNat
      · rw [hcz] at hcl
        go_wp2
        go_ret
        exact ⟨ret_bool (allB_false c zs k hlt (by rw [← HZ.out]; exact hcz)).symm, rfl⟩
      · rw [hcz] at hcl
        go_wp2
        go_round
        case rel => exact ⟨k + 1, by omega, by go_num, by rw [allB_snoc c zs k hlt, HA.out, ← HZ.out, hcz]; rfl⟩
        case measure => simp [intOf]; omega
    · go_wp2
      go_ret
      exact ⟨ret_bool (allB_whole c zs k hlt HA.out).symm, rfl⟩

set_option maxHeartbeats 400000 in
theorem zzAll_any (g : Nat) (c : Nat → Bool) (a : Option Addr) (cap : Nat) (zs : List Int) (w : World) (hg : Cls w g c) (hr : Row w a zs) (hb : Bytes zs) (hn : zs.length ≤ 1048576) :
    Calls Try.prog 8 #[.pointer (some ⟨g, 0, none⟩), .slice a zs.length cap] w fun e w' => e = .returned (.bool (allB c zs)) ∧ w' = w := by
  go_enter Try.func8, Try.ntmps8
  go_wp2_with fail
  refine (all_any g c a cap zs w hg hr hb hn).mono ?_
  rintro e w' ⟨rfl, rfl⟩
  go_wp2
  go_ret
  exact ⟨rfl, rfl⟩

/-! ### zzCloneBytes -/
theorem Try.info5 : (Try.prog.info? 5).map (fun i => (i.zero, i.size, i.bytes)) = some (some (.int .u8 0), 1, 1) := by kernel_rfl

theorem hmake (n : Nat) (hn : n ≤ 1048576) (w : World) :
    (Instr.makeSlice 23 (.int .i64 (n : Int)) (.int .i64 (n : Int))).run Try.prog w = .ok (.slice (some ⟨w.heap.size, 0, none⟩) n n) (w.alloc (.cells (madeCells #[.int .u8 0] n) 5)) := by
  obtain ⟨i, hi, hz⟩ := Option.map_eq_some_iff.1 Try.info5
  simp only [Prod.mk.injEq] at hz
  obtain ⟨h0, h1, h2⟩ := hz
  have hr := run_make (P := Try.prog) w 23 5 i (.int .u8 0) Try.underlying23 hi h0 .i64 .i64 n n (by omega) (Int.le_refl _) (by rw [h2]; omega) (by omega)
  simpa [h1, Value.cells] using hr

/-- Block B holds n bytes, the first k of them zs's. -/
def Part (w : World) (B n k : Nat) (zs : List Int) : Prop :=
  ∃ cs : Array Value, w.heap[B]? = some (.cells cs 5 (0, 0)) ∧ cs.size = n ∧ (∀ j, j < n → ∃ v, cs[j]? = some (.int .u8 v)) ∧ ∀ j, j < k → cs[j]? = some (.int .u8 (zs.getD j 0))

theorem part_zero (w : World) (n : Nat) (zs : List Int) : Part (w.alloc (.cells (madeCells #[.int .u8 0] n) 5)) w.heap.size n 0 zs := by
  refine ⟨_, heap_alloc_new _ _, size_madeCells _ _, fun j hj => ⟨0, ?_⟩, fun j hj => absurd hj (by omega)⟩
  simp [madeCells, hj, Nat.mod_one]

theorem part_cell {w : World} {B n k : Nat} {zs : List Int} (h : Part w B n k zs) (hk : k < n) : (∃ v, w.cell? ⟨B, k, none⟩ = some (.int .u8 v)) ∧ w.frozen? ⟨B, k, none⟩ = false := by
  obtain ⟨cs, hh, hs, hv, _⟩ := h
  obtain ⟨v, hv⟩ := hv k hk
  exact ⟨⟨v, by rw [cell_of_row w B k cs 5 _ hh]; exact hv⟩, frozen_of_row w B k cs 5 hh⟩

theorem part_step {w : World} {B n k : Nat} {zs : List Int} (h : Part w B n k zs) (hk : k < n) : Part (w.setCell ⟨B, k, none⟩ (.int .u8 (zs.getD k 0))) B n (k + 1) zs := by
  obtain ⟨cs, hh, hs, hv, hz⟩ := h
  refine ⟨_, heap_setCell_same w B k cs 5 _ hh, by simpa using hs, fun j hj => ?_, fun j hj => ?_⟩
  · rw [Array.getElem?_setIfInBounds]
    by_cases e : k = j
    · subst e; rw [if_pos rfl, if_pos (by omega)]; exact ⟨_, rfl⟩
    · rw [if_neg e]; exact hv j hj
  · rw [Array.getElem?_setIfInBounds]
    by_cases e : k = j
    · subst e; rw [if_pos rfl, if_pos (by omega)]
    · rw [if_neg e]; exact hz j (by omega)

theorem part_row {w : World} {B n : Nat} {zs : List Int} (h : Part w B n zs.length zs) : Row w (some ⟨B, 0, none⟩) zs := by
  obtain ⟨cs, hh, hs, hv, hz⟩ := h
  refine Or.inr ⟨B, 0, rfl, fun i hi => ?_⟩
  rw [cell_of_row w B _ cs 5 _ hh]
  simpa using hz i hi

theorem row_below {w w' : World} {a : Option Addr} {zs : List Int} (h : Row w a zs) (hb : Below w.heap.size w w') : Row w' a zs := by
  rcases h with h | ⟨b, off, rfl, h⟩
  · exact Or.inl h
  · exact Or.inr ⟨b, off, rfl, fun i hi => (hb.cell (p := ⟨b, off + i, none⟩) (block_lt_of_cell (h i hi))).trans (h i hi)⟩

set_option maxHeartbeats 400000 in
theorem clone_some (x : Addr) (cap : Nat) (zs : List Int) (w : World) (hr : Row w (some x) zs) (hn : zs.length ≤ 1048576) :
    Calls Try.prog 7 #[.slice (some x) zs.length cap] w fun e w' => e = .returned (.slice (some ⟨w.heap.size, 0, none⟩) zs.length zs.length) ∧ Row w' (some ⟨w.heap.size, 0, none⟩) zs ∧ Below w.heap.size w w' := by
  have hnil : ∀ w, (binOp .eql 23 (.slice (some x) zs.length cap) (.slice none 0 0)).run Try.prog w = .ok (.bool false) w := fun w => by
    simpa using Lib.run_eql_slice_nil (P := Try.prog) w 23 5 (some x) zs.length cap 0 0 Try.underlying23
  have hmk := hmake zs.length hn
  go_enter Try.func7, Try.ntmps7
  go_wp2
  go_loopw [4] (fun i wr => ∃ k : Nat, k ≤ zs.length ∧ i = .int .i64 k ∧ Part wr w.heap.size zs.length k zs ∧ Below w.heap.size w wr) (fun i _ => zs.length - (intOf i).toNat)
  case atStart => exact ⟨0, Nat.zero_le _, rfl, part_zero w zs.length zs, (Below.refl _ _).alloc (Nat.le_refl _) _⟩
  case round =>
    obtain ⟨k, hk, rfl, hp, hbl⟩ := hrel
    by_cases hlt : k < zs.length
    · obtain ⟨b, off, rfl, hcell⟩ : ∃ b off, x = ⟨b, off, none⟩ ∧ ∀ i, i < zs.length → w.cell? ⟨b, off + i, none⟩ = some (.int .u8 (zs.getD i 0)) := by
        rcases hr with h | ⟨b, off, h1, h2⟩
        · subst h; simp at hlt
        · exact ⟨b, off, by simpa using h1, h2⟩
      have hc := (hbl.cell (p := ⟨b, off + k, none⟩) (block_lt_of_cell (hcell k hlt))).trans (hcell k hlt)
      obtain ⟨⟨v, hv⟩, hf⟩ := part_cell hp hlt
      have hs := part_step hp hlt
      have hbl' := hbl.setCell (p := ⟨w.heap.size, k, none⟩) (Nat.le_refl _) (.int .u8 (zs.getD k 0))
      have HS : Hid (Part _ _ _ _ _ ∧ Below _ _ _) := ⟨hs, hbl'⟩
      clear hs hbl' hp hbl
      obtain ⟨z, hz⟩ : ∃ z, z = zs.getD k 0 := ⟨_, rfl⟩
      rw [← hz] at hc HS
      clear hcell hr hz
      go_wp2
      go_roundw
      case rel => exact ⟨k + 1, by omega, by go_num, HS.out.1, HS.out.2⟩
      case measure => simp [intOf]; omega
    · obtain rfl : k = zs.length := by omega
      go_wp2
      go_ret
      exact ⟨rfl, part_row hp, hbl⟩
end Go.Proofs.Qxb6606442a
