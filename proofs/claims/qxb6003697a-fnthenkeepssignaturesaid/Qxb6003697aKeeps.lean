import Derived.Test.Qxb6003697aSigLaw
import Derived.Test.Qxb6003697aSize
namespace Go.Proofs.Qxb6003697a
open Go.RowKit
set_option linter.unusedVariables false

theorem wrow {w : World} {ss : List ByteArray} {g : Nat} (h : SRow w (some ⟨g, 0, none⟩) ss) : ∀ i, i < ss.length → w.cell? ⟨g, 0 + i, none⟩ = some (.string (sAt ss i)) := by
  intro i hi
  obtain ⟨b, off, hx, hc⟩ := srow_at h hi
  simp only [Option.some.injEq, Addr.mk.injEq] at hx
  obtain ⟨rfl, rfl, _⟩ := hx
  exact hc i hi

theorem boxes4 (w : World) (a b c d : Obj) : Below w.heap.size w ((((w.alloc a).alloc b).alloc c).alloc d) :=
  ((((Below.refl _ _).alloc (Nat.le_refl _) _).alloc (by simp) _).alloc (by simp; omega) _).alloc (by simp; omega) _
theorem boxes3 (w : World) (a b c : Obj) : Below w.heap.size w (((w.alloc a).alloc b).alloc c) :=
  (((Below.refl _ _).alloc (Nat.le_refl _) _).alloc (by simp) _).alloc (by simp; omega) _

theorem trans3 {B : Nat} {w w1 w2 : World} {a b c : Obj} (h : Below B w w1) (hB : B ≤ w1.heap.size) (hb : Below (((w1.alloc a).alloc b).alloc c).heap.size (((w1.alloc a).alloc b).alloc c) w2) : Below B w w2 := by
  have f := boxes3 w1 a b c
  exact h.trans ((f.trans (hb.mono f.size)).mono hB)

/-- 'Then' as the law calls it: behind four boxes of its own. -/
theorem then_boxed (w : World) (o1 o2 o3 o4 : Obj) (ga gb ca cb : Nat) (ss ts : List ByteArray) (an bn : ByteArray) (hr : SRow w (some ⟨ga, 0, none⟩) ss) (hr' : SRow w (some ⟨gb, 0, none⟩) ts)
    (la : 0 < ss.length) (lb : 0 < ts.length) (la' : ss.length ≤ 1048576) (lb' : ts.length ≤ 1048576) (han : an.size ≤ 1048576) (hbn : bn.size ≤ 1048576) :
    Calls Try.prog 12 #[.agg #[.slice (some ⟨ga, 0, none⟩) ss.length ca, .string an], .agg #[.slice (some ⟨gb, 0, none⟩) ts.length cb, .string bn]] ((((w.alloc o1).alloc o2).alloc o3).alloc o4) fun e w' => ThenOut (an ++ nl ++ bn) w e w' := by
  have fb := boxes4 w o1 o2 o3 o4
  have p1 := wrow hr
  have p2 := wrow hr'
  refine (then12 ga 0 ca gb 0 cb ss ts an bn _ (fun i hi => (fb.cell (p := ⟨ga, 0 + i, none⟩) (block_lt_of_cell (p1 i hi))).trans (p1 i hi)) (fun i hi => (fb.cell (p := ⟨gb, 0 + i, none⟩) (block_lt_of_cell (p2 i hi))).trans (p2 i hi)) la lb la' lb' han hbn).mono ?_
  rintro e w' ⟨g, m, c, hm, he, hb⟩
  exact ⟨g, m, c, hm, he, fb.trans (hb.mono fb.size)⟩

set_option maxHeartbeats 3200000 in
theorem keeps4 (a : Option Addr) (cap : Nat) (ss : List ByteArray) (an : ByteArray) (b : Option Addr) (cap' : Nat) (ts : List ByteArray) (bn : ByteArray) (w : World)
    (hr : SRow w a ss) (hr' : SRow w b ts) (hl : ss.length ≤ maxLen) (hl' : ts.length ≤ maxLen) (hz : SSize ss) (hz' : SSize ts) (ha : an.size ≤ maxLen) (hb : bn.size ≤ maxLen) :
    Calls Try.prog 4 #[.slice a ss.length cap, .string an, .slice b ts.length cap', .string bn] w fun e w' => e = .returned (.bool true) ∧ Below w.heap.size w w' := by
  go_enter Try.func4, Try.ntmps4
  go_wp2_with fail
  refine (size14 a cap ss an b cap' ts bn w hr hr' hl hl' hz hz' ha hb).mono ?_
  rintro e w' ⟨q, rfl, hw, hq⟩
  subst hw
  cases q with
  | false =>
    go_wp2
    go_ret
    exact ⟨rfl, Below.refl _ _⟩
  | true =>
    obtain ⟨la', han, lb', hbn⟩ := hq rfl
    clear hq
    go_wp2_with fail
    refine (bytes8 a cap ss w' hr hz la').mono ?_
    rintro e w1 ⟨m1, hm1, rfl, hw⟩
    subst hw
    go_wp2_with fail
    refine (cap9 an.size ha _).mono ?_
    rintro e w2 ⟨m2, hm2, rfl, hw⟩
    subst hw
    go_wp2_with fail
    refine (bytes8 b cap' ts _ hr' hz' lb').mono ?_
    rintro e w3 ⟨m3, hm3, rfl, hw⟩
    subst hw
    go_wp2_with fail
    refine (cap9 bn.size hb _).mono ?_
    rintro e w4 ⟨m4, hm4, rfl, hw⟩
    subst hw
    clear hl hl' hz hz' ha hb
    by_cases hsum : m1 + m2 + m3 + m4 ≤ 1048576
    · by_cases la : ss.length = 0
      · have e0 : ((ss.length : Int) == 0) = true := by rw [la]; rfl
        go_wp2
        go_ret
        exact ⟨rfl, Below.refl _ _⟩
      · have e0 : ((ss.length : Int) == 0) = false := by rw [beq_eq_false_iff_ne]; omega
        by_cases lb : ts.length = 0
        · have e1 : ((ts.length : Int) == 0) = true := by rw [lb]; rfl
          go_wp2
          go_ret
          exact ⟨rfl, Below.refl _ _⟩
        · have e1 : ((ts.length : Int) == 0) = false := by rw [beq_eq_false_iff_ne]; omega
          obtain ⟨ba, offa, rfl⟩ : ∃ b o, a = some ⟨b, o, none⟩ := by obtain ⟨x, y, hx, _⟩ := srow_at hr (k := 0) (by omega); exact ⟨x, y, hx⟩
          obtain ⟨bb, offb, rfl⟩ : ∃ c o, b = some ⟨c, o, none⟩ := by obtain ⟨x, y, hx, _⟩ := srow_at hr' (k := 0) (by omega); exact ⟨x, y, hx⟩
          go_wp2_with fail
          clear e0 e1 hsum hm1 hm2 hm3 hm4
          refine (clone10 ⟨ba, offa, none⟩ cap ss w4 hr la').mono ?_
          rintro e w5 ⟨rfl, hr5, hb5⟩
          have hr5' : SRow w5 (some ⟨bb, offb, none⟩) ts := srow_below hr' hb5
          have s5 := hb5.size
          clear hr hr'
          go_wp2_with fail
          refine (clone10 ⟨bb, offb, none⟩ cap' ts w5 hr5' lb').mono ?_
          rintro e w6 ⟨rfl, hr6', hb6⟩
          have hr6 := srow_below hr5 hb6
          have B6 : Below w4.heap.size w4 w6 := hb5.trans (hb6.mono s5)
          clear hr5 hr5' hb5 hb6 s5
          go_wp2_with fail
          refine (lines11 _ _ _ an _).mono ?_
          rintro e w7 ⟨rfl, rfl⟩
          go_wp2_with fail
          refine (lines11 _ _ _ bn _).mono ?_
          rintro e w8 ⟨rfl, rfl⟩
          go_wp2_with fail
          have hXs : (an ++ nl ++ bn).size ≤ 4194304 := by rw [ByteArray.size_append, ByteArray.size_append, size_nl]; omega
          have hYs : ((an ++ nl ++ bn).extract 0 (min (an ++ nl ++ bn).size 800)).size ≤ 4194304 := by rw [ByteArray.size_extract]; omega
          have k1 : ∀ g m c w, 0 < m → Calls Try.prog 15 #[.agg #[.slice (some ⟨g, 0, none⟩) m c, .string ((an ++ nl ++ bn).extract 0 (min (an ++ nl ++ bn).size 800))]] w fun e w' => e = .returned (.tuple #[.string (sig (an ++ nl ++ bn)), .bool true]) ∧ Below w.heap.size w w' := fun g m c w hm => by
            have h := sig15 (some ⟨g, 0, none⟩) m c _ w hm hYs
            rwa [sig_law] at h
          have k2 : ∀ a w, Calls Try.prog 15 #[.agg #[.slice a 1 1, .string (an ++ nl ++ bn)]] w fun e w' => e = .returned (.tuple #[.string (sig (an ++ nl ++ bn)), .bool true]) ∧ Below w.heap.size w w' := fun a w =>
            sig15 a 1 1 _ w (by omega) hXs
          have k3 : ∀ a w, Calls Try.prog 15 #[.agg #[.slice a 1 1, .string (an ++ { data := #[10] } ++ bn)]] w fun e w' => e = .returned (.tuple #[.string (sig (an ++ nl ++ bn)), .bool true]) ∧ Below w.heap.size w w' := k2
          obtain ⟨S, hS⟩ : ∃ S, S = sig (an ++ nl ++ bn) := ⟨_, rfl⟩
          obtain ⟨Y, hY⟩ : ∃ Y, Y = (an ++ nl ++ bn).extract 0 (min (an ++ nl ++ bn).size 800) := ⟨_, rfl⟩
          rw [← hS] at k1 k3
          rw [← hY] at k1
          have K1 := hid_in k1
          have K3 := hid_in k3
          have HY := hid_in hY
          clear k1 k2 k3 hS hY hXs hYs
          refine (then_boxed w6 _ _ _ _ w4.heap.size w5.heap.size ss.length ts.length ss ts an bn hr6 hr6' (by omega) (by omega) la' lb' han hbn).mono ?_
          rintro e w9 ⟨g, m, c, hm, he, hb9⟩
          rw [← HY.out] at he
          subst he
          have B9 : Below w4.heap.size w4 w9 := B6.trans (hb9.mono B6.size)
          clear hb9 hr6 hr6' B6
          go_wp2_with fail
          refine (K1.out g m c w9 hm).mono ?_
          rintro e w10 ⟨rfl, hb10⟩
          have B10 : Below w4.heap.size w4 w10 := B9.trans (hb10.mono B9.size)
          clear hb10 B9 K1
          have hA1 : (an ++ ({ data := #[10] } : ByteArray)).size ≤ 2097152 := by rw [ByteArray.size_append]; show an.size + 1 ≤ _; omega
          go_wp2_with fail
          refine (lines11 _ _ _ _ _).mono ?_
          rintro e w11 ⟨rfl, rfl⟩
          go_wp2_with fail
          refine (K3.out _ _).mono ?_
          rintro e w12 ⟨rfl, hb12⟩
          have B12 : Below w4.heap.size w4 w12 := trans3 B10 B10.size hb12
          clear hb12 B10 K3
          go_wp2
          go_ret
          exact ⟨rfl, B12⟩
    · go_wp2
      go_ret
      exact ⟨rfl, Below.refl _ _⟩
end Go.Proofs.Qxb6003697a
