import Derived.Test.Qxb6606442aHistWalk
namespace Go.Proofs.Qxb6606442a
open Go.RowKit
set_option linter.unusedVariables false

theorem hid_in' {p : Prop} (h : p) : Hid p := h

/-! ### The plain law -/
theorem allB_and (c o : Nat → Bool) (zs : List Int) : allB (fun v => c v && o v) zs = (allB c zs && allB o zs) := by
  rw [Bool.eq_iff_iff]; unfold allB
  simp only [List.all_eq_true, Bool.and_eq_true]
  exact ⟨fun h => ⟨fun z hz => (h z hz).1, fun z hz => (h z hz).2⟩, fun h z hz => ⟨h.1 z hz, h.2 z hz⟩⟩
theorem allB_or_left (c o : Nat → Bool) (zs : List Int) (h : allB c zs = true) : allB (fun v => c v || o v) zs = true := by
  unfold allB at *
  simp only [List.all_eq_true] at *
  exact fun z hz => by rw [h z hz]; rfl
theorem allB_or_right (c o : Nat → Bool) (zs : List Int) (h : allB o zs = true) : allB (fun v => c v || o v) zs = true := by
  unfold allB at *
  simp only [List.all_eq_true] at *
  exact fun z hz => by rw [h z hz, Bool.or_true]
theorem allB_not (c : Nat → Bool) (zs : List Int) : (allB c zs && allB (fun v => !(c v)) zs) = decide (zs.length = 0) := by
  cases zs with
  | nil => rfl
  | cons z t =>
    unfold allB
    simp only [List.all_cons]
    cases c z.toNat <;> simp
theorem allB_congr (f g : Nat → Bool) (zs : List Int) (hb : Bytes zs) (h : ∀ i, i < 256 → f i = g i) : allB f zs = allB g zs := by
  unfold allB
  rw [Bool.eq_iff_iff]
  simp only [List.all_eq_true]
  have hz : ∀ z ∈ zs, z.toNat < 256 := fun z hz => by
    obtain ⟨i, hi, rfl⟩ := List.mem_iff_getElem.1 hz
    have := hb i
    simp only [List.getD_eq_getElem?_getD, List.getElem?_eq_getElem hi, Option.getD_some] at this
    omega
  exact ⟨fun k z m => by rw [← h _ (hz z m)]; exact k z m, fun k z m => by rw [h _ (hz z m)]; exact k z m⟩

/-- The first k values of f, the rest false. -/
def upto (k : Nat) (f : Nat → Bool) (i : Nat) : Bool := decide (i < k) && f i
theorem upto_zero (f : Nat → Bool) (i : Nat) : upto 0 f i = false := by simp [upto]
theorem upto_succ (f : Nat → Bool) (k : Nat) (i : Nat) : upto (k + 1) f i = if k = i then f k else upto k f i := by
  unfold upto
  by_cases e : k = i
  · subst e; simp
  · rw [if_neg e]
    have : decide (i < k + 1) = decide (i < k) := by rw [decide_eq_decide]; omega
    rw [this]
theorem upto_all (f : Nat → Bool) (i : Nat) (h : i < 256) : upto 256 f i = f i := by simp [upto, h]

theorem arr_other {w : World} {g g' : Nat} {f : Nat → Bool} (h : Arr w g f) (hg : g ≠ g') (k : Nat) (v : Value) : Arr (w.setCell ⟨g', k, none⟩ v) g f := by
  obtain ⟨cs, hh, r⟩ := h
  exact ⟨cs, by rw [heap_setCell_other w ⟨g', k, none⟩ g v hg]; exact hh, r⟩
theorem arr_old {w : World} {g : Nat} {f : Nat → Bool} (h : Arr w g f) (o : Obj) : Arr (w.alloc o) g f := by
  obtain ⟨cs, hh, r⟩ := h
  have hlt : g < w.heap.size := by
    by_cases hlt : g < w.heap.size
    · exact hlt
    · have hn : w.heap[g]? = none := by simp; omega
      rw [hn] at hh; cases hh
  exact ⟨cs, by rw [Below.heap_alloc w o g hlt]; exact hh, r⟩

set_option maxHeartbeats 400000 in
theorem size10_small (xs ys : Array Value) (hx : xs.size = 256) (hy : ys.size = 256) (a : Option Addr) (n cap : Nat) (w : World) (hn : n ≤ 1048576) :
    Calls Try.prog 10 #[.agg xs, .agg ys, .slice a n cap] w fun e w' => e = .returned (.bool true) ∧ Below w.heap.size w w' := by
  go_enter Try.func10, Try.ntmps10
  go_wp2
  go_ret
  exact ⟨rfl, ((Below.refl _ _).alloc (Nat.le_refl _) _).alloc (by simp) _⟩

set_option maxHeartbeats 400000 in
theorem size10_big (xs ys : Array Value) (hx : xs.size = 256) (hy : ys.size = 256) (a : Option Addr) (n cap : Nat) (w : World) (hn : ¬ n ≤ 1048576) (hm : n ≤ maxLen) :
    Calls Try.prog 10 #[.agg xs, .agg ys, .slice a n cap] w fun e w' => e = .returned (.bool false) ∧ Below w.heap.size w w' := by
  unfold maxLen at hm
  go_enter Try.func10, Try.ntmps10
  go_wp2
  go_ret
  exact ⟨rfl, ((Below.refl _ _).alloc (Nat.le_refl _) _).alloc (by simp) _⟩

set_option maxHeartbeats 400000 in
theorem union_big (xs ys : Array Value) (hx : xs.size = 256) (hy : ys.size = 256) (a : Option Addr) (n cap : Nat) (w : World) (hn : ¬ n ≤ 1048576) (hm : n ≤ maxLen) :
    Calls Try.prog 5 #[.agg xs, .agg ys, .slice a n cap] w fun e w' => e = .returned (.bool true) ∧ Below w.heap.size w w' := by
  have hi : (Try.prog.info? 22).map (·.size) = some xs.size := by rw [hx]; exact Try.info22
  have hi' : (Try.prog.info? 22).map (·.size) = some ys.size := by rw [hy]; exact Try.info22
  have hg1 := heap_alloc2_old w (.cells xs 22 (0, 0)) (.cells ys 22 (0, 0))
  have hg2 := heap_alloc2_new w (.cells xs 22 (0, 0)) (.cells ys 22 (0, 0))
  go_enter Try.func5, Try.ntmps5
  go_wp2_with (first | (go_at_call 10; refine (size10_big xs ys hx hy a n cap _ hn hm).mono ?_; rintro e w' ⟨rfl, hb⟩) | (refine wpList_load_row rfl 22 (.tmp 3) rfl w.heap.size rfl 22 xs (0, 0) _ hg1 Try.underlying22 rfl hi ?_) | (refine wpList_load_row rfl 22 (.tmp 4) rfl (w.heap.size + 1) rfl 22 ys (0, 0) _ hg2 Try.underlying22 rfl hi' ?_))
  go_ret
  exact ⟨rfl, (((Below.refl _ _).alloc (Nat.le_refl _) _).alloc (by simp) _).trans (hb.mono (by simp; omega))⟩
end Go.Proofs.Qxb6606442a
