import Derived.Test.Qxb6606442aUnion
namespace Go.Proofs.Qxb6606442a
open Go.RowKit
set_option linter.unusedVariables false

/-- The three arrays that the loop fills, k values done. -/
def Three (w : World) (S k : Nat) (c o : Nat → Bool) : Prop :=
  Arr w S (upto k fun v => c v && o v) ∧ Arr w (S + 1) (upto k fun v => c v || o v) ∧ Arr w (S + 2) (upto k fun v => !(c v))

theorem three_zero (w : World) (c o : Nat → Bool) : Three (((w.alloc (.cells zeros 22)).alloc (.cells zeros 22)).alloc (.cells zeros 22)) w.heap.size 0 c o := by
  have h1 := arr_zero w (upto 0 fun v => c v && o v) (upto_zero _)
  have h2 := arr_zero (w.alloc (.cells zeros 22)) (upto 0 fun v => c v || o v) (upto_zero _)
  have h3 := arr_zero ((w.alloc (.cells zeros 22)).alloc (.cells zeros 22)) (upto 0 fun v => !(c v)) (upto_zero _)
  simp only [World.size_alloc] at h2 h3
  exact ⟨arr_old (arr_old h1 _) _, arr_old h2 _, h3⟩

theorem three_step {w : World} {S k : Nat} {c o : Nat → Bool} (h : Three w S k c o) (hk : k < 256) :
    Three (((w.setCell ⟨S, k, none⟩ (.bool (c k && o k))).setCell ⟨S + 1, k, none⟩ (.bool (c k || o k))).setCell ⟨S + 2, k, none⟩ (.bool (!(c k)))) S (k + 1) c o := by
  obtain ⟨h1, h2, h3⟩ := h
  refine ⟨?_, ?_, ?_⟩
  · exact arr_other (arr_other (arr_set h1 k hk _ fun i => upto_succ _ k i) (by omega) _ _) (by omega) _ _
  · exact arr_other (arr_set (arr_other h2 (by omega) _ _) k hk _ fun i => upto_succ _ k i) (by omega) _ _
  · exact arr_set (arr_other (arr_other h3 (by omega) _ _) (by omega) _ _) k hk _ fun i => upto_succ _ k i

set_option maxHeartbeats 1600000 in
set_option maxRecDepth 20000 in
theorem union_small (xs ys : Array Value) (c o : Nat → Bool) (hx : xs.size = 256) (hc : ∀ i, i < 256 → xs[i]? = some (.bool (c i))) (hy : ys.size = 256) (ho : ∀ i, i < 256 → ys[i]? = some (.bool (o i)))
    (a : Option Addr) (cap : Nat) (zs : List Int) (w : World) (h0 : a = none → zs = [] ∧ cap = 0) (hr : Row w a zs) (hb : Bytes zs) (hn : zs.length ≤ 1048576) :
    Calls Try.prog 5 #[.agg xs, .agg ys, .slice a zs.length cap] w fun e w' => e = .returned (.bool true) ∧ Below w.heap.size w w' := by
  have hi : (Try.prog.info? 22).map (·.size) = some xs.size := by rw [hx]; exact Try.info22
  have hi' : (Try.prog.info? 22).map (·.size) = some ys.size := by rw [hy]; exact Try.info22
  have hg1 := heap_alloc2_old w (.cells xs 22 (0, 0)) (.cells ys 22 (0, 0))
  have hg2 := heap_alloc2_new w (.cells xs 22 (0, 0)) (.cells ys 22 (0, 0))
  go_enter Try.func5, Try.ntmps5
  go_wp2_with (first | (go_at_call 10; refine (size10_small xs ys hx hy a zs.length cap _ hn).mono ?_; rintro e w1 ⟨rfl, hb1⟩) | (refine wpList_load_row rfl 22 (.tmp 3) rfl w.heap.size rfl 22 xs (0, 0) _ hg1 Try.underlying22 rfl hi ?_) | (refine wpList_load_row rfl 22 (.tmp 4) rfl (w.heap.size + 1) rfl 22 ys (0, 0) _ hg2 Try.underlying22 rfl hi' ?_))
  have hB0 : Below w.heap.size w ((w.alloc (.cells xs 22)).alloc (.cells ys 22)) := ((Below.refl _ _).alloc (Nat.le_refl _) _).alloc (by simp) _
  have hB1 : Below w.heap.size w w1 := hB0.trans (hb1.mono (by simp; omega))
  have hr1 : Row w1 a zs := row_below hr hB1
  have hc0 : Cls ((w.alloc (.cells xs 22)).alloc (.cells ys 22)) w.heap.size c := fun i hi => by rw [cell_of_row _ _ i xs 22 (0, 0) hg1]; exact hc i hi
  have ho0 : Cls ((w.alloc (.cells xs 22)).alloc (.cells ys 22)) (w.heap.size + 1) o := fun i hi => by rw [cell_of_row _ _ i ys 22 (0, 0) hg2]; exact ho i hi
  have hc1 : Cls w1 w.heap.size c := cls_below hc0 hb1
  have ho1 : Cls w1 (w.heap.size + 1) o := cls_below ho0 hb1
  have hs1 : w.heap.size ≤ w1.heap.size := hB1.size
  clear hb1 hB0 hg1 hg2 hi hi' hr hc0 ho0
  refine (clone_any a cap zs w1 h0 hr1 hn).mono ?_
  rintro e w2 ⟨a2, cap2, rfl, hr2, hb2⟩
  have hB2 : Below w.heap.size w w2 := hB1.trans (hb2.mono hs1)
  have hc2 : Cls w2 w.heap.size c := cls_below hc1 hb2
  have ho2 : Cls w2 (w.heap.size + 1) o := cls_below ho1 hb2
  have hs2 : w.heap.size + 1 < w2.heap.size := cls_lt ho2
  have HP : Hid (Row w2 a2 zs ∧ Bytes zs ∧ Cls w2 w.heap.size c ∧ Cls w2 (w.heap.size + 1) o ∧ Below w.heap.size w w2) := ⟨hr2, hb, hc2, ho2, hB2⟩
  clear hB1 hr1 hc1 ho1 hs1 hb2 h0 hc ho hr2 hB2 hc2 ho2 hb
  go_wp2_with (refine wpList_alloc22 rfl rfl ?_)
  go_loopw [10] (fun i wr => ∃ k : Nat, k ≤ 256 ∧ i = .int .i64 k ∧ Three wr w2.heap.size k c o ∧ Below w2.heap.size w2 wr) (fun i _ => 256 - (intOf i).toNat)
  case atStart => exact ⟨0, Nat.zero_le _, rfl, three_zero w2 c o, (((Below.refl _ _).alloc (Nat.le_refl _) _).alloc (by simp) _).alloc (by simp; omega) _⟩
  case round =>
    obtain ⟨k, hk, rfl, h3, hbl⟩ := hrel
    obtain ⟨hr2, hb, hc2, ho2, hB2⟩ := HP.out
    by_cases hlt : k < 256
    · have hck := (hbl.cell (p := ⟨w.heap.size, k, none⟩) (by show w.heap.size < _; omega)).trans (hc2 k hlt)
      have hok := (hbl.cell (p := ⟨w.heap.size + 1, k, none⟩) (by show w.heap.size + 1 < _; omega)).trans (ho2 k hlt)
      have c1 := arr_cls h3.1 k hlt
      have c2 := arr_cls h3.2.1 k hlt
      have c3 := arr_cls h3.2.2 k hlt
      have f1 := arr_free h3.1 k
      have f2 := arr_free h3.2.1 k
      have f3 := arr_free h3.2.2 k
      have hst := three_step h3 hlt
      have hbl' := ((hbl.setCell (p := ⟨w2.heap.size, k, none⟩) (Nat.le_refl _) (.bool (c k && o k))).setCell (p := ⟨w2.heap.size + 1, k, none⟩) (Nat.le_succ _) (.bool (c k || o k))).setCell (p := ⟨w2.heap.size + 2, k, none⟩) (by show w2.heap.size ≤ w2.heap.size + 2; omega) (.bool (!(c k)))
      have HS : Hid (Three _ _ _ _ _ ∧ Below _ _ _) := ⟨hst, hbl'⟩
      clear hst hbl' h3 hbl hr2 hb hc2 ho2 hB2
      obtain ⟨cv, hcv⟩ : ∃ cv, cv = c k := ⟨_, rfl⟩
      obtain ⟨ov, hov⟩ : ∃ ov, ov = o k := ⟨_, rfl⟩
      rw [← hcv, ← hov] at HS
      rw [← hcv] at hck
      rw [← hov] at hok
      clear hcv hov
      have n1 : ¬ w2.heap.size = w.heap.size := by omega
      have n2 : ¬ w2.heap.size = w.heap.size + 1 := by omega
      cases cv <;> cases ov
      all_goals
        go_wp2
        go_roundw
        case rel => exact ⟨k + 1, by omega, by go_num, HS.out.1, HS.out.2⟩
        case measure => simp [intOf]; omega
    · obtain rfl : k = 256 := by omega
      have hcr : Cls wr w.heap.size c := cls_below hc2 hbl
      have hor : Cls wr (w.heap.size + 1) o := cls_below ho2 hbl
      have hrr : Row wr a2 zs := row_below hr2 hbl
      have hBr : Below w.heap.size w wr := hB2.trans (hbl.mono (by omega))
      have k1 := zzAll_any w.heap.size c a2 cap2 zs wr hcr hrr hb hn
      have k2 := zzAll_any (w.heap.size + 1) o a2 cap2 zs wr hor hrr hb hn
      have k3 := zzAll_any w2.heap.size _ a2 cap2 zs wr (arr_cls h3.1) hrr hb hn
      have k4 := zzAll_any (w2.heap.size + 1) _ a2 cap2 zs wr (arr_cls h3.2.1) hrr hb hn
      have k5 := zzAll_any (w2.heap.size + 1 + 1) _ a2 cap2 zs wr (arr_cls h3.2.2) hrr hb hn
      rw [allB_congr _ _ zs hb (upto_all _)] at k3 k4 k5
      rw [allB_and] at k3
      have e4 := allB_or_left c o zs
      have e5 := allB_or_right c o zs
      have e6 := allB_not c zs
      obtain ⟨p, hp1⟩ : ∃ p, p = allB c zs := ⟨_, rfl⟩
      obtain ⟨q, hp2⟩ : ∃ q, q = allB o zs := ⟨_, rfl⟩
      obtain ⟨u, hp3⟩ : ∃ u, u = allB (fun v => c v || o v) zs := ⟨_, rfl⟩
      obtain ⟨n, hp4⟩ : ∃ n, n = allB (fun v => !(c v)) zs := ⟨_, rfl⟩
      rw [← hp1] at k1 k3 e4 e6
      rw [← hp2] at k2 k3 e5
      rw [← hp3] at k4 e4 e5
      rw [← hp4] at k5 e6
      have K1 := hid_in' k1
      have K2 := hid_in' k2
      have K3 := hid_in' k3
      have K4 := hid_in' k4
      have K5 := hid_in' k5
      clear k1 k2 k3 k4 k5 hp1 hp2 hp3 hp4 hcr hor hrr h3 hbl hr2 hb hc2 ho2 hB2 HP hlt hk
      have hz : ((zs.length : Int) == 0) = (p && n) := by
        rw [e6, Bool.eq_iff_iff]
        simp only [beq_iff_eq, decide_eq_true_eq]
        omega
      clear e6
      cases p <;> cases q <;> cases u <;> cases n
      all_goals first | exact (absurd (e4 rfl) Bool.false_ne_true) | exact (absurd (e5 rfl) Bool.false_ne_true) | skip
      all_goals clear e4 e5
      all_goals
        go_wp2_with fail
        refine K1.out.mono ?_
        rintro e w' ⟨rfl, rfl⟩
        go_wp2_with fail
        refine K2.out.mono ?_
        rintro e w5 ⟨rfl, rfl⟩
        go_wp2_with fail
        refine K3.out.mono ?_
        rintro e w6 ⟨rfl, rfl⟩
        go_wp2_with fail
        refine K4.out.mono ?_
        rintro e w7 ⟨rfl, rfl⟩
        go_wp2_with fail
        refine K5.out.mono ?_
        rintro e w8 ⟨rfl, rfl⟩
        go_wp2
        go_ret
        exact ⟨rfl, hBr⟩
end Go.Proofs.Qxb6606442a
