import Derived.Test.Qxb6606442aHist
namespace Go.Proofs.Qxb6606442a
open Go.RowKit
set_option linter.unusedVariables false

/-! ### The plain law -/
def seenB (zs : List Int) (v : Nat) : Bool := zs.any fun z => z.toNat == v
def wantB (c : Nat → Bool) (zs : List Int) (n : Nat) : Bool := (List.range n).all fun v => !(seenB zs v) || c v

theorem seenB_snoc (zs : List Int) (k v : Nat) (h : k < zs.length) : seenB (zs.take (k + 1)) v = (seenB (zs.take k) v || (zs.getD k 0).toNat == v) := by
  unfold seenB
  rw [List.take_succ_eq_append_getElem h, List.any_append]
  simp only [List.any_cons, List.any_nil, Bool.or_false, List.getD_eq_getElem?_getD, List.getElem?_eq_getElem h, Option.getD_some]
theorem wantB_succ (c : Nat → Bool) (zs : List Int) (n : Nat) : wantB c zs (n + 1) = (wantB c zs n && (!(seenB zs n) || c n)) := by
  unfold wantB
  rw [List.range_succ, List.all_append]
  simp
theorem hist_law (c : Nat → Bool) (zs : List Int) (hb : Bytes zs) : allB c zs = wantB c zs 256 := by
  rw [Bool.eq_iff_iff]
  unfold allB wantB seenB
  simp only [List.all_eq_true, List.mem_range, Bool.or_eq_true, Bool.not_eq_true', List.any_eq_false, beq_iff_eq]
  constructor
  · intro h v hv
    by_cases hs : ∃ z ∈ zs, z.toNat = v
    · obtain ⟨z, hz, rfl⟩ := hs; exact Or.inr (h z hz)
    · exact Or.inl fun z hz e => hs ⟨z, hz, e⟩
  · intro h z hz
    obtain ⟨i, hi, rfl⟩ := List.mem_iff_getElem.1 hz
    have := hb i
    simp only [List.getD_eq_getElem?_getD, List.getElem?_eq_getElem hi, Option.getD_some] at this
    rcases h (zs[i].toNat) (by omega) with h | h
    · exact absurd rfl (h _ hz)
    · exact h

/-! ### The array 'seen' -/
def Arr (w : World) (g : Nat) (f : Nat → Bool) : Prop := ∃ cs : Array Value, w.heap[g]? = some (.cells cs 22 (0, 0)) ∧ cs.size = 256 ∧ ∀ i, i < 256 → cs[i]? = some (.bool (f i))
theorem arr_zero (w : World) (f : Nat → Bool) (hf : ∀ i, f i = false) : Arr (w.alloc (.cells zeros 22)) w.heap.size f :=
  ⟨_, heap_alloc_new _ _, by simp [zeros], fun i hi => by rw [hf i]; simp [zeros, hi]⟩
theorem arr_cls {w : World} {g : Nat} {f : Nat → Bool} (h : Arr w g f) : Cls w g f := fun i hi => by
  obtain ⟨cs, hh, _, hc⟩ := h
  rw [cell_of_row w g i cs 22 _ hh]; exact hc i hi
theorem arr_free {w : World} {g : Nat} {f : Nat → Bool} (h : Arr w g f) (i : Nat) : w.frozen? ⟨g, i, none⟩ = false := by
  obtain ⟨cs, hh, _, hc⟩ := h
  exact frozen_of_row w g i cs 22 hh
theorem arr_set {w : World} {g : Nat} {f f' : Nat → Bool} (h : Arr w g f) (k : Nat) (hk : k < 256) (b : Bool) (hf : ∀ i, f' i = if k = i then b else f i) : Arr (w.setCell ⟨g, k, none⟩ (.bool b)) g f' := by
  obtain ⟨cs, hh, hs, hc⟩ := h
  refine ⟨_, heap_setCell_same w g k cs 22 _ hh, by simpa using hs, fun i hi => ?_⟩
  rw [Array.getElem?_setIfInBounds, hf i]
  by_cases e : k = i
  · subst e; rw [if_pos rfl, if_pos (by omega), if_pos rfl]
  · rw [if_neg e, if_neg e]; exact hc i hi

set_option maxHeartbeats 800000 in
set_option maxRecDepth 20000 in
theorem hist_small (xs : Array Value) (c : Nat → Bool) (hx : xs.size = 256) (hc : ∀ i, i < 256 → xs[i]? = some (.bool (c i))) (a : Option Addr) (cap : Nat) (zs : List Int) (w : World) (h0 : a = none → zs = [] ∧ cap = 0) (hr : Row w a zs) (hb : Bytes zs) (hn : zs.length ≤ 1048576) :
    Calls Try.prog 3 #[.agg xs, .slice a zs.length cap] w fun e w' => e = .returned (.bool true) ∧ Below w.heap.size w w' := by
  have hi : (Try.prog.info? 22).map (·.size) = some xs.size := by rw [hx]; exact Try.info22
  have hg1 := heap_alloc_new w (.cells xs 22 (0, 0))
  go_enter Try.func3, Try.ntmps3
  go_wp2_with (first | (go_at_call 6; refine (size6_small xs hx a zs.length cap _ hn).mono ?_; rintro e w1 ⟨rfl, hb1⟩) | (refine wpList_load_row rfl 22 _ rfl w.heap.size rfl 22 xs (0, 0) _ hg1 Try.underlying22 rfl hi ?_))
  have hB0 : Below w.heap.size w (w.alloc (.cells xs 22)) := (Below.refl _ _).alloc (Nat.le_refl _) _
  have hB1 : Below w.heap.size w w1 := hB0.trans (hb1.mono (by simp))
  have hr1 : Row w1 a zs := row_below hr (hB1.mono (Nat.le_refl _))
  have hc1 : Cls w1 w.heap.size c := cls_below (cls_box w xs c hc) hb1
  have hs1 : w.heap.size ≤ w1.heap.size := hB1.size
  clear hb1 hB0 hg1 hi hr
  refine (clone_any a cap zs w1 h0 hr1 hn).mono ?_
  rintro e w2 ⟨a2, cap2, rfl, hr2, hb2⟩
  have hB2 : Below w.heap.size w w2 := hB1.trans (hb2.mono hs1)
  have hc2 : Cls w2 w.heap.size c := cls_below hc1 hb2
  have hs2 : w.heap.size ≤ w2.heap.size := hB2.size
  have HP : Hid (Row w2 a2 zs ∧ Bytes zs ∧ Cls w2 w.heap.size c ∧ Below w.heap.size w w2) := ⟨hr2, hb, hc2, hB2⟩
  clear hB1 hr1 hc1 hs1 hb2 h0 hc hr2 hB2 hc2 hb
  go_wp2_with (refine wpList_alloc22 rfl rfl ?_)
  go_loopw [6] (fun i wr => ∃ k : Nat, k ≤ zs.length ∧ i = .int .i64 k ∧ Arr wr w2.heap.size (seenB (zs.take k)) ∧ Below w2.heap.size w2 wr) (fun i _ => zs.length - (intOf i).toNat)
  case atStart => exact ⟨0, Nat.zero_le _, rfl, arr_zero w2 _ (fun i => rfl), (Below.refl _ _).alloc (Nat.le_refl _) _⟩
  case round =>
    obtain ⟨k, hk, rfl, ha, hbl⟩ := hrel
    obtain ⟨hr2, hb, hc2, hB2⟩ := HP.out
    by_cases hlt : k < zs.length
    · obtain ⟨b, off, rfl, hcell⟩ : ∃ b off, a2 = some ⟨b, off, none⟩ ∧ ∀ i, i < zs.length → w2.cell? ⟨b, off + i, none⟩ = some (.int .u8 (zs.getD i 0)) := by
        rcases hr2 with h | h
        · subst h; simp at hlt
        · exact h
      have hcz := (hbl.cell (p := ⟨b, off + k, none⟩) (block_lt_of_cell (hcell k hlt))).trans (hcell k hlt)
      have hb1 := (hb k).1
      have hb2 := (hb k).2
      have hst := arr_set ha (f' := seenB (zs.take (k + 1))) (zs.getD k 0).toNat (by omega) true (fun i => by
        rw [seenB_snoc zs k i hlt]
        by_cases e : (zs.getD k 0).toNat = i
        · rw [if_pos e, e, beq_self_eq_true, Bool.or_true]
        · rw [if_neg e, beq_eq_false_iff_ne.2 e, Bool.or_false])
      obtain ⟨z, hz⟩ : ∃ z, z = zs.getD k 0 := ⟨_, rfl⟩
      rw [← hz] at hcz hb1 hb2 hst
      have hcs := arr_cls ha z.toNat (by omega)
      have hfs := arr_free ha z.toNat
      have hbl' := hbl.setCell (p := ⟨w2.heap.size, z.toNat, none⟩) (Nat.le_refl _) (.bool true)
      have HS : Hid (Arr _ _ _ ∧ Below _ _ _) := ⟨hst, hbl'⟩
      clear hst hbl' ha hbl hr2 hb hc2 hB2 hcell hz
      go_wp2
      go_roundw
      case rel => exact ⟨k + 1, by omega, by go_num, HS.out.1, HS.out.2⟩
      case measure => simp [intOf]; omega
    · obtain rfl : k = zs.length := by omega
      rw [List.take_length] at ha
      have hcr : Cls wr w.heap.size c := cls_below hc2 hbl
      have hrr : Row wr a2 zs := row_below hr2 hbl
      have hsr : Cls wr w2.heap.size (seenB zs) := arr_cls ha
      have HQ : Hid (Row wr a2 zs ∧ Bytes zs ∧ Cls wr w.heap.size c ∧ Cls wr w2.heap.size (seenB zs) ∧ Below w.heap.size w wr) := ⟨hrr, hb, hcr, hsr, hB2.trans (hbl.mono hs2)⟩
      clear ha hbl hr2 hb hc2 hB2 HP hcr hrr hsr
      go_wp2
      go_loop [7, 8] (fun t i => ∃ v : Nat, v ≤ 256 ∧ i = .int .i64 v ∧ t = .bool (wantB c zs v)) (fun _ i => 256 - (intOf i).toNat)
      case atStart => exact ⟨0, Nat.zero_le _, rfl, rfl⟩
      case round =>
        obtain ⟨v, hv, rfl, rfl⟩ := hrel
        obtain ⟨hrr, hb, hcr, hsr, hB⟩ := HQ.out
        by_cases hlt : v < 256
        · have h1 := hsr v hlt
          have h2 := hcr v hlt
          have hsu : Hid (wantB c zs (v + 1) = (wantB c zs v && (!(seenB zs v) || c v))) := wantB_succ c zs v
          clear hrr hb hcr hsr hB
          obtain ⟨sv, hsv⟩ : ∃ sv, sv = seenB zs v := ⟨_, rfl⟩
          obtain ⟨cv, hcv⟩ : ∃ cv, cv = c v := ⟨_, rfl⟩
          obtain ⟨wv, hwv⟩ : ∃ wv, wv = wantB c zs v := ⟨_, rfl⟩
          rw [← hsv] at h1 hsu
          rw [← hcv] at h2 hsu
          rw [← hwv] at hsu ⊢
          clear hsv hcv hwv
          cases sv <;> cases cv
          all_goals
            go_wp2
            go_round
            case rel => exact ⟨v + 1, by omega, by go_num, by rw [hsu.out]; simp⟩
            case measure => simp [intOf]; omega
        · obtain rfl : v = 256 := by omega
          clear hv
          go_wp2_with fail
          refine (zzAll_any w.heap.size c a2 cap2 zs wr hcr hrr hb hn).mono ?_
          rintro e w' ⟨rfl, rfl⟩
          rw [hist_law c zs hb]
          go_wp2
          go_ret
          exact ⟨ret_bool (by simp), hB⟩
end Go.Proofs.Qxb6606442a
