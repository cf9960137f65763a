import Derived.Test.Qxb6003688aTag
namespace Go.Proofs.Qxb6003688a
open Go.RowKit
set_option linter.unusedVariables false

/-! ### The plain law -/
theorem isB_list (full p s : ByteArray) : isB full p s = (decide (p.size ≤ full.size) && (full.toList.take p.size == p.toList) && (full.toList.drop p.size == s.toList)) := by
  unfold isB hpB
  rw [ByteArray.toList_eq (full.extract 0 p.size), ByteArray.toList_eq (full.extract p.size full.size), ByteArray.toList_eq full]
  have e1 : (full.extract 0 p.size).data.toList = full.data.toList.take p.size := by
    rw [ByteArray.data_extract]; simp
  have e2 : (full.extract p.size full.size).data.toList = full.data.toList.drop p.size := by
    rw [ByteArray.data_extract, Array.toList_extract, List.extract_eq_take_drop]
    apply List.take_of_length_le
    simp only [List.length_drop, Array.length_toList]
    exact Nat.le_refl _
  rw [e1, e2]
theorem isB_law (full p s : ByteArray) : isB full p s = ((p ++ s).toList == full.toList) := by
  rw [isB_list, ByteArray.toList_eq (p ++ s), ByteArray.data_append, Array.toList_append, ← ByteArray.toList_eq p, ← ByteArray.toList_eq s, Bool.eq_iff_iff]
  have hp : p.size = p.toList.length := by rw [ByteArray.toList_eq]; simp
  have hf : full.size = full.toList.length := by rw [ByteArray.toList_eq]; simp
  simp only [Bool.and_eq_true, decide_eq_true_eq, beq_iff_eq]
  constructor
  · rintro ⟨⟨h1, h2⟩, h3⟩
    rw [← h2, ← h3, List.take_append_drop]
  · intro h
    rw [hp, hf, ← h]
    simp

set_option maxHeartbeats 400000 in
theorem law_big (b : Bool) (p s f : ByteArray) (w : World) (h : ¬ p.size + s.size + f.size ≤ 1048576) (h1 : p.size ≤ maxLen) (h2 : s.size ≤ maxLen) (h3 : f.size ≤ maxLen) :
    Calls Try.prog 6 #[.bool b, .string p, .string s, .string f] w fun e w' => e = .returned (.bool true) ∧ Below w.heap.size w w' := by
  go_enter Try.func6, Try.ntmps6
  go_wp2_with fail
  refine (size_no b p s f w h h1 h2 h3).mono ?_
  rintro e w' ⟨rfl, rfl⟩
  go_wp2
  go_ret
  exact ⟨rfl, Below.refl _ _⟩

theorem box2 {W w' : World} {B : Nat} {v0 v1 : Value} (h : W.cell? ⟨B, 0, none⟩ = some v0 ∧ W.cell? ⟨B, 1, none⟩ = some v1) (hb : Below W.heap.size W w') :
    w'.cell? ⟨B, 0, none⟩ = some v0 ∧ w'.cell? ⟨B, 1, none⟩ = some v1 := by
  have hB : B < W.heap.size := block_lt_of_cell h.1
  exact ⟨(hb.cell (p := ⟨B, 0, none⟩) hB).trans h.1, (hb.cell (p := ⟨B, 1, none⟩) hB).trans h.2⟩

theorem hid_in {p : Prop} (h : p) : Hid p := h

set_option maxHeartbeats 800000 in
theorem law_nil (p s f : ByteArray) (w : World) (h : p.size + s.size + f.size ≤ 1048576) :
    Calls Try.prog 6 #[.bool false, .string p, .string s, .string f] w fun e w' => e = .returned (.bool true) ∧ Below w.heap.size w w' := by
  have hp : p.size ≤ 1048576 := by omega
  have hs : s.size ≤ 1048576 := by omega
  have hf : f.size ≤ 1048576 := by omega
  obtain ⟨q, hq⟩ : ∃ q, q = (s.toList == f.toList) := ⟨_, rfl⟩
  have k1 : ∀ w, Calls Try.prog 20 #[.agg #[.pointer none, .string s], .string s] w fun e w' => e = .returned (.bool true) ∧ Below w.heap.size w w' := fun w => by
    have h := is_nil s s w
    rwa [beq_self_eq_true] at h
  have k2 : ∀ w, Calls Try.prog 20 #[.agg #[.pointer none, .string s], .string f] w fun e w' => e = .returned (.bool q) ∧ Below w.heap.size w w' := fun w => by
    have h := is_nil s f w
    rwa [← hq] at h
  have hq' : (s.toList == f.toList) = q := hq.symm
  have K1 := hid_in k1
  have K2 := hid_in k2
  clear hq k1 k2
  cases q
  all_goals
    go_enter Try.func6, Try.ntmps6
    go_wp2_with fail
    refine (size_yes false p s f w h).mono ?_
    rintro e w' ⟨rfl, rfl⟩
    go_wp2_with fail
    refine (tag_no p s w').mono ?_
    rintro e w1 ⟨rfl, hb1⟩
    have hs1 := hb1.size
    go_wp2_with fail
    refine (string_nil s _).mono ?_
    rintro e w2 ⟨rfl, hb2⟩
    obtain ⟨c0, c1⟩ := box2 (B := w1.heap.size) (v0 := .pointer none) (v1 := .string s) ⟨by simp, by simp⟩ hb2
    have B2 : Below w'.heap.size w' w2 := (hb1.alloc hs1 _).trans (hb2.mono (by simp; omega))
    clear hb2 hb1
    go_wp2_with fail
    refine (K1.out _).mono ?_
    rintro e w3 ⟨rfl, hb3⟩
    obtain ⟨d0, d1⟩ := box2 ⟨c0, c1⟩ hb3
    have B3 : Below w'.heap.size w' w3 := B2.trans (hb3.mono B2.size)
    clear hb3 B2 c0 c1
    go_wp2_with fail
    refine (K2.out _).mono ?_
    rintro e w4 ⟨rfl, hb4⟩
    have B4 : Below w'.heap.size w' w4 := B3.trans (hb4.mono B3.size)
    clear hb4 B3 d0 d1
    go_wp2
    go_ret
    exact ⟨rfl, B4⟩

set_option maxHeartbeats 800000 in
theorem law_some (p s f : ByteArray) (w : World) (h : p.size + s.size + f.size ≤ 1048576) :
    Calls Try.prog 6 #[.bool true, .string p, .string s, .string f] w fun e w' => e = .returned (.bool true) ∧ Below w.heap.size w w' := by
  have hp : p.size ≤ 1048576 := by omega
  have hs : s.size ≤ 1048576 := by omega
  have hf : f.size ≤ 1048576 := by omega
  have hps : (p ++ s).size ≤ 1048576 := by rw [ByteArray.size_append]; omega
  obtain ⟨q, hq⟩ : ∃ q, q = ((p ++ s).toList == f.toList) := ⟨_, rfl⟩
  have k1 : ∀ g w, w.cell? ⟨g, 0, none⟩ = some (.string p) → Calls Try.prog 20 #[.agg #[.pointer (some ⟨g, 0, none⟩), .string s], .string (p ++ s)] w fun e w' => e = .returned (.bool true) ∧ Below w.heap.size w w' := fun g w hg => by
    have h := is_some p s (p ++ s) g w hps hp hg
    rwa [isB_law, beq_self_eq_true] at h
  have k2 : ∀ g w, w.cell? ⟨g, 0, none⟩ = some (.string p) → Calls Try.prog 20 #[.agg #[.pointer (some ⟨g, 0, none⟩), .string s], .string f] w fun e w' => e = .returned (.bool q) ∧ Below w.heap.size w w' := fun g w hg => by
    have h := is_some p s f g w hf hp hg
    rwa [isB_law, ← hq] at h
  have hq' : ((p ++ s).toList == f.toList) = q := hq.symm
  have K1 := hid_in k1
  have K2 := hid_in k2
  clear hq k1 k2
  cases q
  all_goals
    go_enter Try.func6, Try.ntmps6
    go_wp2_with fail
    refine (size_yes true p s f w h).mono ?_
    rintro e w' ⟨rfl, rfl⟩
    go_wp2_with fail
    refine (tag_yes p s w').mono ?_
    rintro e w1 ⟨g, rfl, hg1, hb1⟩
    have hs1 := hb1.size
    go_wp2_with fail
    have hgl : g < w1.heap.size := block_lt_of_cell hg1
    have hgc : (w1.alloc (.cells #[.pointer (some ⟨g, 0, none⟩), .string s] 43)).cell? ⟨g, 0, none⟩ = some (.string p) := by rw [World.cell?_alloc_past _ _ _ hgl]; exact hg1
    refine (string_some p s g _ hs hp hgc).mono ?_
    rintro e w2 ⟨rfl, hb2⟩
    obtain ⟨c0, c1⟩ := box2 (B := w1.heap.size) (v0 := .pointer (some ⟨g, 0, none⟩)) (v1 := .string s) ⟨by simp, by simp⟩ hb2
    have B2 : Below w'.heap.size w' w2 := (hb1.alloc hs1 _).trans (hb2.mono (by simp; omega))
    have g2 : w2.cell? ⟨g, 0, none⟩ = some (.string p) := (hb2.cell (p := ⟨g, 0, none⟩) (block_lt_of_cell hgc)).trans hgc
    clear hgc hg1 hgl
    clear hb2 hb1
    go_wp2_with fail
    refine (K1.out g _ g2).mono ?_
    rintro e w3 ⟨rfl, hb3⟩
    obtain ⟨d0, d1⟩ := box2 ⟨c0, c1⟩ hb3
    have B3 : Below w'.heap.size w' w3 := B2.trans (hb3.mono B2.size)
    have g3 : w3.cell? ⟨g, 0, none⟩ = some (.string p) := (hb3.cell (p := ⟨g, 0, none⟩) (block_lt_of_cell g2)).trans g2
    clear g2
    clear hb3 B2 c0 c1
    go_wp2_with fail
    refine (K2.out g _ g3).mono ?_
    rintro e w4 ⟨rfl, hb4⟩
    have B4 : Below w'.heap.size w' w4 := B3.trans (hb4.mono B3.size)
    clear hb4 B3 d0 d1
    go_wp2
    go_ret
    exact ⟨rfl, B4⟩

end Go.Proofs.Qxb6003688a
