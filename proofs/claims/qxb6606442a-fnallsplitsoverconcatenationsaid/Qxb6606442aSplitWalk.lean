import Derived.Test.Qxb6606442aSplit
namespace Go.Proofs.Qxb6606442a
open Go.RowKit
set_option linter.unusedVariables false

theorem hid_in {p : Prop} (h : p) : Hid p := h

theorem hmake2 (n m : Nat) (hn : n + m ≤ 1048576) (w : World) :
    (Instr.makeSlice 23 (.int .i64 ((n : Int) + (m : Int))) (.int .i64 ((n : Int) + (m : Int)))).run Try.prog w = .ok (.slice (some ⟨w.heap.size, 0, none⟩) (n + m) (n + m)) (w.alloc (.cells (madeCells #[.int .u8 0] (n + m)) 5)) := by
  have h := hmake (n + m) hn w
  rw [Int.natCast_add] at h
  exact h

set_option maxHeartbeats 1600000 in
set_option maxRecDepth 20000 in
theorem split_small (xs : Array Value) (c : Nat → Bool) (hx : xs.size = 256) (hc : ∀ i, i < 256 → xs[i]? = some (.bool (c i)))
    (a : Option Addr) (cap : Nat) (zs : List Int) (b : Option Addr) (cap' : Nat) (ys : List Int) (w : World)
    (h0 : a = none → zs = [] ∧ cap = 0) (hr : Row w a zs) (hb : Bytes zs) (h0' : b = none → ys = [] ∧ cap' = 0) (hr' : Row w b ys) (hb' : Bytes ys) (hn : zs.length + ys.length ≤ 1048576) (hz : zs.length ≤ 524288) (hy : ys.length ≤ 524288) :
    Calls Try.prog 4 #[.agg xs, .slice a zs.length cap, .slice b ys.length cap'] w fun e w' => e = .returned (.bool true) ∧ Below w.heap.size w w' := by
  have hi : (Try.prog.info? 22).map (·.size) = some xs.size := by rw [hx]; exact Try.info22
  have hg1 := heap_alloc_new w (.cells xs 22 (0, 0))
  go_enter Try.func4, Try.ntmps4
  go_wp2_with (first | (go_at_call 9; refine (size9_yes xs hx a b zs.length cap ys.length cap' _ hn).mono ?_; rintro e w1 ⟨rfl, hb1⟩) | (refine wpList_load_row rfl 22 _ rfl w.heap.size rfl 22 xs (0, 0) _ hg1 Try.underlying22 rfl hi ?_))
  have hB0 : Below w.heap.size w (w.alloc (.cells xs 22)) := (Below.refl _ _).alloc (Nat.le_refl _) _
  have hB1 : Below w.heap.size w w1 := hB0.trans (hb1.mono (by simp))
  have hr1 : Row w1 a zs := row_below hr hB1
  have hr1' : Row w1 b ys := row_below hr' hB1
  have hc1 : Cls w1 w.heap.size c := cls_below (cls_box w xs c hc) hb1
  have hs1 : w.heap.size ≤ w1.heap.size := hB1.size
  clear hb1 hB0 hg1 hi hr hr'
  refine (clone_any a cap zs w1 h0 hr1 (by omega)).mono ?_
  rintro e w2 ⟨a2, cap2, rfl, hr2, hb2⟩
  have hB2 : Below w.heap.size w w2 := hB1.trans (hb2.mono hs1)
  have hc2 : Cls w2 w.heap.size c := cls_below hc1 hb2
  have hr2' : Row w2 b ys := row_below hr1' hb2
  have hs2 : w.heap.size ≤ w2.heap.size := hB2.size
  clear hB1 hr1 hr1' hc1 hs1 hb2 h0 hc
  go_wp2_with fail
  refine (clone_any b cap' ys w2 h0' hr2' (by omega)).mono ?_
  rintro e w3 ⟨b3, cap3, rfl, hr3', hb3⟩
  have hB3 : Below w.heap.size w w3 := hB2.trans (hb3.mono hs2)
  have hc3 : Cls w3 w.heap.size c := cls_below hc2 hb3
  have hr3 : Row w3 a2 zs := row_below hr2 hb3
  have hs3 : w.heap.size ≤ w3.heap.size := hB3.size
  have HP : Hid (Row w3 a2 zs ∧ Row w3 b3 ys ∧ Bytes zs ∧ Bytes ys ∧ Cls w3 w.heap.size c ∧ Below w.heap.size w w3) := ⟨hr3, hr3', hb, hb', hc3, hB3⟩
  clear hB2 hr2 hr2' hc2 hs2 hb3 h0' hr3 hr3' hB3 hc3 hb hb'
  have hmk := hmake2 zs.length ys.length hn
  go_wp2
  clear hmk
  go_loopw [8] (fun i wr => ∃ k : Nat, k ≤ zs.length ∧ i = .int .i64 k ∧ Part wr w3.heap.size (zs.length + ys.length) k (zs ++ ys) ∧ Below w3.heap.size w3 wr) (fun i _ => zs.length - (intOf i).toNat)
  case atStart => exact ⟨0, Nat.zero_le _, rfl, part_zero w3 _ _, (Below.refl _ _).alloc (Nat.le_refl _) _⟩
  case round =>
    obtain ⟨k, hk, rfl, hp, hbl⟩ := hrel
    obtain ⟨hr3, hr3', hb, hb', hc3, hB3⟩ := HP.out
    by_cases hlt : k < zs.length
    · obtain ⟨bb, off, rfl, hcell⟩ : ∃ b off, a2 = some ⟨b, off, none⟩ ∧ ∀ i, i < zs.length → w3.cell? ⟨b, off + i, none⟩ = some (.int .u8 (zs.getD i 0)) := by
        rcases hr3 with h | h
        · subst h; simp at hlt
        · exact h
      have hcz := (hbl.cell (p := ⟨bb, off + k, none⟩) (block_lt_of_cell (hcell k hlt))).trans (hcell k hlt)
      obtain ⟨⟨v, hv⟩, hf⟩ := part_cell hp (by omega)
      have hs := part_step hp (by omega)
      rw [getD_left zs ys k hlt] at hs
      have hbl' := hbl.setCell (p := ⟨w3.heap.size, k, none⟩) (Nat.le_refl _) (.int .u8 (zs.getD k 0))
      have HS : Hid (Part _ _ _ _ _ ∧ Below _ _ _) := ⟨hs, hbl'⟩
      clear hs hbl' hp hbl hr3 hr3' hb hb' hc3 hB3
      obtain ⟨z, hz⟩ : ∃ z, z = zs.getD k 0 := ⟨_, rfl⟩
      rw [← hz] at hcz HS
      clear hcell hz
      have hlt2 : k < zs.length + ys.length := by omega
      go_wp2
      go_roundw
      case rel => exact ⟨k + 1, by omega, by go_num, HS.out.1, HS.out.2⟩
      case measure => simp [intOf]; omega
    · obtain rfl : k = zs.length := by omega
      obtain ⟨w4, rfl⟩ : ∃ w4 : World, w4 = wr := ⟨_, rfl⟩
      have hs4 : w3.heap.size ≤ w4.heap.size := hbl.size
      clear hr3 hr3' hb hb' hc3 hB3 hk hlt
      go_wp2
      go_loopw [9] (fun i wr => ∃ k : Nat, k ≤ ys.length ∧ i = .int .i64 k ∧ Part wr w3.heap.size (zs.length + ys.length) (zs.length + k) (zs ++ ys) ∧ Below w3.heap.size w3 wr) (fun i _ => ys.length - (intOf i).toNat)
      case atStart => exact ⟨0, Nat.zero_le _, rfl, hp, hbl⟩
      case round =>
        clear hp hbl
        obtain ⟨k, hk, rfl, hp, hbl⟩ := hrel
        obtain ⟨hr3, hr3', hb, hb', hc3, hB3⟩ := HP.out
        by_cases hlt : k < ys.length
        · obtain ⟨bb, off, rfl, hcell⟩ : ∃ b off, b3 = some ⟨b, off, none⟩ ∧ ∀ i, i < ys.length → w3.cell? ⟨b, off + i, none⟩ = some (.int .u8 (ys.getD i 0)) := by
            rcases hr3' with h | h
            · subst h; simp at hlt
            · exact h
          have hcz := (hbl.cell (p := ⟨bb, off + k, none⟩) (block_lt_of_cell (hcell k hlt))).trans (hcell k hlt)
          obtain ⟨⟨v, hv⟩, hf⟩ := part_cell hp (by omega)
          have hs := part_step hp (by omega)
          rw [getD_right zs ys k] at hs
          have hbl' := hbl.setCell (p := ⟨w3.heap.size, zs.length + k, none⟩) (Nat.le_refl _) (.int .u8 (ys.getD k 0))
          have HS : Hid (Part _ _ _ _ _ ∧ Below _ _ _) := ⟨hs, hbl'⟩
          clear hs hbl' hp hbl hr3 hr3' hb hb' hc3 hB3
          obtain ⟨z, hz⟩ : ∃ z, z = ys.getD k 0 := ⟨_, rfl⟩
          rw [← hz] at hcz HS
          clear hcell hz
          have hlt2 : zs.length + k < zs.length + ys.length := by omega
          go_wp2
          go_roundw
          case rel => exact ⟨k + 1, by omega, by go_num, HS.out.1, HS.out.2⟩
          case measure => simp [intOf]; omega
        · obtain rfl : k = ys.length := by omega
          have hpr : Row wr (some ⟨w3.heap.size, 0, none⟩) (zs ++ ys) := part_row (by rw [List.length_append]; exact hp)
          have hcr : Cls wr w.heap.size c := cls_below hc3 hbl
          have hrr : Row wr a2 zs := row_below hr3 hbl
          have hrr' : Row wr b3 ys := row_below hr3' hbl
          have hBr : Below w.heap.size w wr := hB3.trans (hbl.mono hs3)
          have k0 := zzAll_any w.heap.size c none 0 [] wr hcr (Or.inl rfl) (fun i => by simp) (by simp)
          have k1 := zzAll_any w.heap.size c a2 cap2 zs wr hcr hrr hb (by omega)
          have k2 := zzAll_any w.heap.size c b3 cap3 ys wr hcr hrr' hb' (by omega)
          have k3 := zzAll_any w.heap.size c (some ⟨w3.heap.size, 0, none⟩) (zs.length + ys.length) (zs ++ ys) wr hcr hpr (bytes_append hb hb') (by rw [List.length_append]; exact hn)
          rw [show allB c [] = true from rfl, List.length_nil] at k0
          rw [allB_append, List.length_append] at k3
          obtain ⟨p, hp1⟩ : ∃ p, p = allB c zs := ⟨_, rfl⟩
          obtain ⟨q, hp2⟩ : ∃ q, q = allB c ys := ⟨_, rfl⟩
          rw [← hp1] at k1 k3
          rw [← hp2] at k2 k3
          have K0 := hid_in k0
          have K1 := hid_in k1
          have K2 := hid_in k2
          have K3 := hid_in k3
          clear k0 k1 k2 k3 hp1 hp2
          clear hpr hrr hrr' hb hb' hcr hp hbl hr3 hr3' hc3 hB3 HP hlt hk
          cases p <;> cases q
          all_goals
            go_wp2_with fail
            refine K0.out.mono ?_
            rintro e w' ⟨rfl, rfl⟩
            go_wp2_with fail
            refine K1.out.mono ?_
            rintro e w5 ⟨rfl, rfl⟩
            go_wp2_with fail
            refine K2.out.mono ?_
            rintro e w6 ⟨rfl, rfl⟩
            go_wp2_with fail
            refine K3.out.mono ?_
            rintro e w7 ⟨rfl, rfl⟩
            go_wp2
            go_ret
            exact ⟨rfl, hBr⟩
end Go.Proofs.Qxb6606442a
