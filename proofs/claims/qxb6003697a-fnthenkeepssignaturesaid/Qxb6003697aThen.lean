import Derived.Test.Qxb6003697aConcat
import Derived.RegionTactic
import Derived.BigRegion
import Derived.Deep.RegionHeld3
namespace Go.Proofs.Qxb6003697a
open Go.RowKit
set_option linter.unusedVariables false

def nl : ByteArray := ⟨#[10]⟩
theorem size_nl : nl.size = 1 := rfl

theorem extract_all (X : ByteArray) : X.extract 0 X.size = X := by
  apply ByteArray.ext; rw [ByteArray.data_extract]; exact Array.extract_size

/-- What 'Then' hands back where both sides have lines. -/
def ThenOut (X : ByteArray) (w : World) (e : Ending) (w' : World) : Prop :=
  ∃ g m cap, 0 < m ∧ e = .returned (.agg #[.slice (some ⟨g, 0, none⟩) m cap, .string (X.extract 0 (min X.size 800))]) ∧ Below w.heap.size w w'
theorem thenOut_mk {X Y Z : ByteArray} {w w' : World} {g m cap : Nat} (hX : Z = X) (hm : 0 < m) (hY : Y = X.extract 0 (min X.size 800)) (hb : Below w.heap.size w w') :
    ThenOut Z w (.returned (.agg #[.slice (some ⟨g, 0, none⟩) m cap, .string Y])) w' := ⟨g, m, cap, hm, by rw [hX, hY], hb⟩

/-- The four blocks that 'Then' lays ahead of its call. -/
def four (w : World) (x0 x1 y0 y1 z0 z1 p q : Value) : World := (((w.alloc (.cells #[x0, x1] 28)).alloc (.cells #[y0, y1] 28)).alloc (.cells #[z0, z1] 28)).alloc (.cells #[p, q] 22)

section
variable (w : World) (x0 x1 y0 y1 z0 z1 p q : Value)
theorem four_size : (four w x0 x1 y0 y1 z0 z1 p q).heap.size = w.heap.size + 4 := by simp [four]
theorem four_3 : (four w x0 x1 y0 y1 z0 z1 p q).heap[w.heap.size + 1 + 1 + 1]? = some (.cells #[p, q] 22 (0, 0)) := by
  have h := heap_alloc_new ((w.alloc (.cells #[x0, x1] 28)).alloc (.cells #[y0, y1] 28) |>.alloc (.cells #[z0, z1] 28)) (.cells #[p, q] 22)
  simp only [World.size_alloc] at h
  exact h
theorem four_2 : (four w x0 x1 y0 y1 z0 z1 p q).heap[w.heap.size + 1 + 1]? = some (.cells #[z0, z1] 28 (0, 0)) := by
  have h := heap_alloc_new ((w.alloc (.cells #[x0, x1] 28)).alloc (.cells #[y0, y1] 28)) (.cells #[z0, z1] 28)
  simp only [World.size_alloc] at h
  unfold four
  rw [Below.heap_alloc _ _ _ (by simp)]
  exact h
theorem four_1 : (four w x0 x1 y0 y1 z0 z1 p q).heap[w.heap.size + 1]? = some (.cells #[y0, y1] 28 (0, 0)) := by
  have h := heap_alloc_new (w.alloc (.cells #[x0, x1] 28)) (.cells #[y0, y1] 28)
  simp only [World.size_alloc] at h
  unfold four
  rw [Below.heap_alloc _ _ _ (by simp), Below.heap_alloc _ _ _ (by simp)]
  exact h
theorem four_0 : (four w x0 x1 y0 y1 z0 z1 p q).heap[w.heap.size]? = some (.cells #[x0, x1] 28 (0, 0)) := by
  have h := heap_alloc_new w (.cells #[x0, x1] 28)
  unfold four
  rw [Below.heap_alloc _ _ _ (by simp; omega), Below.heap_alloc _ _ _ (by simp; omega), Below.heap_alloc _ _ _ (by simp)]
  exact h
theorem four_below : Below w.heap.size w (four w x0 x1 y0 y1 z0 z1 p q) :=
  ((((Below.refl _ _).alloc (Nat.le_refl _) _).alloc (by simp) _).alloc (by simp; omega) _).alloc (by simp; omega) _
end

set_option maxHeartbeats 1600000 in
theorem then12 (ba offa ca bb offb cb : Nat) (ss ts : List ByteArray) (an bn : ByteArray) (w : World)
    (ha : ∀ i, i < ss.length → w.cell? ⟨ba, offa + i, none⟩ = some (.string (sAt ss i))) (hb : ∀ i, i < ts.length → w.cell? ⟨bb, offb + i, none⟩ = some (.string (sAt ts i)))
    (la : 0 < ss.length) (lb : 0 < ts.length) (la' : ss.length ≤ 1048576) (lb' : ts.length ≤ 1048576) (han : an.size ≤ 1048576) (hbn : bn.size ≤ 1048576) :
    Calls Try.prog 12 #[.agg #[.slice (some ⟨ba, offa, none⟩) ss.length ca, .string an], .agg #[.slice (some ⟨bb, offb, none⟩) ts.length cb, .string bn]] w fun e w' =>
      ThenOut (an ++ nl ++ bn) w e w' := by
  have n1 : ((ss.length : Int) == 0) = false := by rw [beq_eq_false_iff_ne]; omega
  have n2 : ((ts.length : Int) == 0) = false := by rw [beq_eq_false_iff_ne]; omega
  have H1 := hid_in ha
  have H2 := hid_in hb
  clear ha hb
  go_enter Try.func12, Try.ntmps12
  go_wp2_with fail
  have f3 := four_3 w (.slice (some ⟨ba, offa, none⟩) ss.length ca) (.string an) (.slice (some ⟨bb, offb, none⟩) ts.length cb) (.string bn) (.slice none 0 0) (.string ⟨#[]⟩) (.slice (some ⟨ba, offa, none⟩) ss.length ca) (.slice (some ⟨bb, offb, none⟩) ts.length cb)
  have f2 := four_2 w (.slice (some ⟨ba, offa, none⟩) ss.length ca) (.string an) (.slice (some ⟨bb, offb, none⟩) ts.length cb) (.string bn) (.slice none 0 0) (.string ⟨#[]⟩) (.slice (some ⟨ba, offa, none⟩) ss.length ca) (.slice (some ⟨bb, offb, none⟩) ts.length cb)
  have f1 := four_1 w (.slice (some ⟨ba, offa, none⟩) ss.length ca) (.string an) (.slice (some ⟨bb, offb, none⟩) ts.length cb) (.string bn) (.slice none 0 0) (.string ⟨#[]⟩) (.slice (some ⟨ba, offa, none⟩) ss.length ca) (.slice (some ⟨bb, offb, none⟩) ts.length cb)
  have f0 := four_0 w (.slice (some ⟨ba, offa, none⟩) ss.length ca) (.string an) (.slice (some ⟨bb, offb, none⟩) ts.length cb) (.string bn) (.slice none 0 0) (.string ⟨#[]⟩) (.slice (some ⟨ba, offa, none⟩) ss.length ca) (.slice (some ⟨bb, offb, none⟩) ts.length cb)
  have fb := four_below w (.slice (some ⟨ba, offa, none⟩) ss.length ca) (.string an) (.slice (some ⟨bb, offb, none⟩) ts.length cb) (.string bn) (.slice none 0 0) (.string ⟨#[]⟩) (.slice (some ⟨ba, offa, none⟩) ss.length ca) (.slice (some ⟨bb, offb, none⟩) ts.length cb)
  have fs := four_size w (.slice (some ⟨ba, offa, none⟩) ss.length ca) (.string an) (.slice (some ⟨bb, offb, none⟩) ts.length cb) (.string bn) (.slice none 0 0) (.string ⟨#[]⟩) (.slice (some ⟨ba, offa, none⟩) ss.length ca) (.slice (some ⟨bb, offb, none⟩) ts.length cb)
  change Calls Try.prog 22 _ (four w (.slice (some ⟨ba, offa, none⟩) ss.length ca) (.string an) (.slice (some ⟨bb, offb, none⟩) ts.length cb) (.string bn) (.slice none 0 0) (.string ⟨#[]⟩) (.slice (some ⟨ba, offa, none⟩) ss.length ca) (.slice (some ⟨bb, offb, none⟩) ts.length cb)) _
  generalize four w (.slice (some ⟨ba, offa, none⟩) ss.length ca) (.string an) (.slice (some ⟨bb, offb, none⟩) ts.length cb) (.string bn) (.slice none 0 0) (.string ⟨#[]⟩) (.slice (some ⟨ba, offa, none⟩) ss.length ca) (.slice (some ⟨bb, offb, none⟩) ts.length cb) = W at f0 f1 f2 f3 fb fs ⊢
  refine (concat22 (w.heap.size + 1 + 1 + 1) ba offa ca bb offb cb ss ts W (by rw [cell_of_row W _ 0 _ 22 _ f3]; rfl) (by rw [cell_of_row W _ 1 _ 22 _ f3]; rfl)
    (fun i hi => (fb.cell (p := ⟨ba, offa + i, none⟩) (block_lt_of_cell (H1.out i hi))).trans (H1.out i hi)) (fun i hi => (fb.cell (p := ⟨bb, offb + i, none⟩) (block_lt_of_cell (H2.out i hi))).trans (H2.out i hi)) la lb la' lb').mono ?_
  rintro e w1 ⟨g, cap, rfl, hcap, hmax, hbl⟩
  have hB1 : Below w.heap.size w w1 := fb.trans (hbl.mono (by omega))
  have b0 : w1.heap[w.heap.size]? = _ := (hbl.block _ (by omega)).trans f0
  have b1 : w1.heap[w.heap.size + 1]? = _ := (hbl.block _ (by omega)).trans f1
  have b2 : w1.heap[w.heap.size + 1 + 1]? = _ := (hbl.block _ (by omega)).trans f2
  have c01 : w1.cell? ⟨w.heap.size, 1, none⟩ = some (.string an) := by rw [cell_of_row w1 _ 1 _ 28 _ b0]; rfl
  have c11 : w1.cell? ⟨w.heap.size + 1, 1, none⟩ = some (.string bn) := by rw [cell_of_row w1 _ 1 _ 28 _ b1]; rfl
  have c20 : w1.cell? ⟨w.heap.size + 1 + 1, 0, none⟩ = some (.slice none 0 0) := by rw [cell_of_row w1 _ 0 _ 28 _ b2]; rfl
  have c21 : w1.cell? ⟨w.heap.size + 1 + 1, 1, none⟩ = some (.string ⟨#[]⟩) := by rw [cell_of_row w1 _ 1 _ 28 _ b2]; rfl
  have z20 : w1.frozen? ⟨w.heap.size + 1 + 1, 0, none⟩ = false := frozen_of_row w1 _ 0 _ 28 b2
  have z21 : w1.frozen? ⟨w.heap.size + 1 + 1, 1, none⟩ = false := frozen_of_row w1 _ 1 _ 28 b2
  have hcap' : cap ≤ 9223372036854775807 := by unfold maxLen at hmax; exact hmax
  clear f0 f1 f2 f3 fb fs hbl b0 b1 b2 H1 H2 hmax
  go_wp2
  have hXs : (an ++ { data := #[10] } ++ bn : ByteArray).size ≤ 4194304 := by rw [ByteArray.size_append, ByteArray.size_append]; show an.size + 1 + bn.size ≤ _; omega
  generalize hX : (an ++ { data := #[10] } ++ bn : ByteArray) = X at hXs ⊢
  have hX' : an ++ nl ++ bn = X := hX
  have HX := hid_in hX'
  clear hX hX' c01 c11
  by_cases hm : ss.length + ts.length ≤ 50 <;> by_cases hx : X.size ≤ 800
  · go_region
    go_wp2
    refine bodyPost_ret (v := .agg #[.slice (some ⟨g, 0, none⟩) (ss.length + ts.length) cap, .string X]) (by simp [results, Try.results12, go_sem, c20, c21]) rfl (thenOut_mk HX.out (by omega) (by rw [Nat.min_eq_left hx, extract_all]) ?_)
    exact ((hB1.setCell (p := ⟨w.heap.size + 1 + 1, 0, none⟩) (by show w.heap.size ≤ w.heap.size + 1 + 1; omega) _).setCell (p := ⟨w.heap.size + 1 + 1, 1, none⟩) (by show w.heap.size ≤ w.heap.size + 1 + 1; omega) _).drew
  · go_region
    go_wp2
    refine bodyPost_ret (v := .agg #[.slice (some ⟨g, 0, none⟩) (ss.length + ts.length) cap, .string (X.extract 0 800)]) (by simp [results, Try.results12, go_sem, c20, c21]) rfl (thenOut_mk HX.out (by omega) (by rw [Nat.min_eq_right (by omega)]) ?_)
    exact ((hB1.setCell (p := ⟨w.heap.size + 1 + 1, 0, none⟩) (by show w.heap.size ≤ w.heap.size + 1 + 1; omega) _).setCell (p := ⟨w.heap.size + 1 + 1, 1, none⟩) (by show w.heap.size ≤ w.heap.size + 1 + 1; omega) _).drew
  · go_region
    go_wp2
    refine bodyPost_ret (v := .agg #[.slice (some ⟨g, 0, none⟩) 50 cap, .string X]) (by simp [results, Try.results12, go_sem, c20, c21]) rfl (thenOut_mk HX.out (by omega) (by rw [Nat.min_eq_left hx, extract_all]) ?_)
    exact ((hB1.setCell (p := ⟨w.heap.size + 1 + 1, 0, none⟩) (by show w.heap.size ≤ w.heap.size + 1 + 1; omega) _).setCell (p := ⟨w.heap.size + 1 + 1, 1, none⟩) (by show w.heap.size ≤ w.heap.size + 1 + 1; omega) _).drew
  · go_region
    go_wp2
    refine bodyPost_ret (v := .agg #[.slice (some ⟨g, 0, none⟩) 50 cap, .string (X.extract 0 800)]) (by simp [results, Try.results12, go_sem, c20, c21]) rfl (thenOut_mk HX.out (by omega) (by rw [Nat.min_eq_right (by omega)]) ?_)
    exact ((hB1.setCell (p := ⟨w.heap.size + 1 + 1, 0, none⟩) (by show w.heap.size ≤ w.heap.size + 1 + 1; omega) _).setCell (p := ⟨w.heap.size + 1 + 1, 1, none⟩) (by show w.heap.size ≤ w.heap.size + 1 + 1; omega) _).drew
end Go.Proofs.Qxb6003697a
