import Derived.Test.Qxb6003625aBits
namespace Go.Proofs.Qxb6003625a
set_option linter.unusedVariables false

theorem mapF_congr (r w e a : Nat → Bool) {m m' : Nat → Bool} (h : ∀ i, m i = m' i) (i : Nat) : mapF r w e a m i = mapF r w e a m' i := by
  have : m = m' := funext h
  rw [this]

section
variable {r w e a : Int} (hr : U r) (hw : U w) (he : U e) (ha : U a)
theorem mapR (hr : U r) (hw : U w) (he : U e) (ha : U a) : mapI r w e a 2147483648 = imgR r w e a := by
  obtain ⟨u1, f1⟩ := map_F hr hw he ha uGR
  obtain ⟨u2, f2⟩ := imgR_F hr hw he ha
  exact U_ext u1 u2 fun i => by rw [f1, f2, mapF_congr _ _ _ _ tGR, bitR]
theorem mapW (hr : U r) (hw : U w) (he : U e) (ha : U a) : mapI r w e a 1073741824 = imgW w e a := by
  obtain ⟨u1, f1⟩ := map_F hr hw he ha uGW
  obtain ⟨u2, f2⟩ := imgW_F hw he ha
  exact U_ext u1 u2 fun i => by rw [f1, f2, mapF_congr _ _ _ _ tGW, bitW]
theorem mapE (hr : U r) (hw : U w) (he : U e) (ha : U a) : mapI r w e a 536870912 = imgE e a := by
  obtain ⟨u1, f1⟩ := map_F hr hw he ha uGE
  obtain ⟨u2, f2⟩ := imgE_F he ha
  exact U_ext u1 u2 fun i => by rw [f1, f2, mapF_congr _ _ _ _ tGE, bitE]
theorem u3758 : U 3758096384 := ⟨by omega, by omega⟩
theorem u2684 : U 2684354560 := ⟨by omega, by omega⟩
theorem t3758 (i : Nat) : tb 3758096384 i = (i == 31 || i == 30 || i == 29) := by
  have : (3758096384 : Int) = Go.bits .or .u32 (Go.bits .or .u32 2147483648 1073741824) 536870912 := by decide
  rw [this, tb_or (uGR.or uGW) uGE, tb_or uGR uGW, tGR, tGW, tGE]
theorem t2684 (i : Nat) : tb 2684354560 i = (i == 31 || i == 29) := by
  have : (2684354560 : Int) = Go.bits .or .u32 2147483648 536870912 := by decide
  rw [this, tb_or uGR uGE, tGR, tGE]
/-- Map of READ, WRITE and EXECUTE together. -/
theorem mapAll (hr : U r) (hw : U w) (he : U e) (ha : U a) : mapI r w e a 3758096384 = bits .or .u32 (bits .or .u32 (imgR r w e a) (imgW w e a)) (imgE e a) := by
  obtain ⟨u1, f1⟩ := map_F hr hw he ha u3758
  obtain ⟨uR, fR⟩ := imgR_F hr hw he ha
  obtain ⟨uW, fW⟩ := imgW_F hw he ha
  obtain ⟨uE, fE⟩ := imgE_F he ha
  exact U_ext u1 ((uR.or uW).or uE) fun i => by rw [f1, mapF_congr _ _ _ _ t3758, bitAll, tb_or (uR.or uW) uE, tb_or uR uW, fR, fW, fE]
/-- Map of READ and EXECUTE together. -/
theorem mapRE (hr : U r) (hw : U w) (he : U e) (ha : U a) : mapI r w e a 2684354560 = bits .or .u32 (imgR r w e a) (imgE e a) := by
  obtain ⟨u1, f1⟩ := map_F hr hw he ha u2684
  obtain ⟨uR, fR⟩ := imgR_F hr hw he ha
  obtain ⟨uE, fE⟩ := imgE_F he ha
  exact U_ext u1 (uR.or uE) fun i => by rw [f1, mapF_congr _ _ _ _ t2684, bitRE, tb_or uR uE, fR, fE]
end

/-! ### What a label leaves -/
def clearF (t : Bool) (x y : Bool) : Bool := if t = true then x && !y else x
theorem clear_F {m x y : Int} (hm : U m) (hx : U x) (hy : U y) (k : Nat) (c : Int) (hc : c.toNat = 2 ^ k) (hu : U c) : U (clearI m c x y) ∧ ∀ i, tb (clearI m c x y) i = clearF (tb m k) (tb x i) (tb y i) := by
  have hb := test_bit hm k c hc hu
  unfold clearI clearF
  rw [hb]
  cases tb m k
  · exact ⟨hx, fun i => rfl⟩
  · exact ⟨hx.andNot hy, fun i => by simp only [if_true]; rw [tb_andNot hx hy]⟩
def leftF (m1 m2 m4 x y z : Bool) : Bool := clearF m4 (clearF m2 (clearF m1 (x || z) y) x) z
theorem u1 : U 1 := ⟨by omega, by omega⟩
theorem u2 : U 2 := ⟨by omega, by omega⟩
theorem u4 : U 4 := ⟨by omega, by omega⟩
theorem u7 : U 7 := ⟨by omega, by omega⟩
theorem left_F {m x y z : Int} (hm : U m) (hx : U x) (hy : U y) (hz : U z) : U (leftI m x y z) ∧ ∀ i, tb (leftI m x y z) i = leftF (tb m 0) (tb m 1) (tb m 2) (tb x i) (tb y i) (tb z i) := by
  obtain ⟨a1, f1⟩ := clear_F hm (hx.or hz) hy 0 1 (by decide) u1
  obtain ⟨a2, f2⟩ := clear_F hm a1 hx 1 2 (by decide) u2
  obtain ⟨a3, f3⟩ := clear_F hm a2 hz 2 4 (by decide) u4
  exact ⟨a3, fun i => by unfold leftI leftF; rw [f3, f2, f1, tb_or hx hz]⟩
theorem t1 (i : Nat) : tb 1 i = (i == 0) := tb_pow 0 _ (by decide) i
theorem t2 (i : Nat) : tb 2 i = (i == 1) := tb_pow 1 _ (by decide) i
theorem t4 (i : Nat) : tb 4 i = (i == 2) := tb_pow 2 _ (by decide) i
theorem t7 (i : Nat) : tb 7 i = (i == 0 || i == 1 || i == 2) := by
  have : (7 : Int) = Go.bits .or .u32 (Go.bits .or .u32 1 2) 4 := by decide
  rw [this, tb_or (u1.or u2) u4, tb_or u1 u2, t1, t2, t4]

section
variable {m o x y z : Int}
/-- No policy bit. -/
theorem left_none (hm : U m) (hx : U x) (hy : U y) (hz : U z) : leftI (bits .andNot .u32 m 7) x y z = bits .or .u32 x z := by
  obtain ⟨v, f⟩ := left_F (hm.andNot u7) hx hy hz
  exact U_ext v (hx.or hz) fun i => by
    rw [f, tb_or hx hz, tb_andNot hm u7, tb_andNot hm u7, tb_andNot hm u7, t7, t7, t7]
    generalize tb m 0 = b0; generalize tb m 1 = b1; generalize tb m 2 = b2; generalize tb x i = b3; generalize tb y i = b4; generalize tb z i = b5
    revert b0 b1 b2 b3 b4 b5; decide
theorem left_1 (hx : U x) (hy : U y) (hz : U z) : leftI 1 x y z = bits .andNot .u32 (bits .or .u32 x z) y := by
  obtain ⟨v, f⟩ := left_F u1 hx hy hz
  exact U_ext v ((hx.or hz).andNot hy) fun i => by
    rw [f, tb_andNot (hx.or hz) hy, tb_or hx hz, t1, t1, t1]
    generalize tb x i = b3; generalize tb y i = b4; generalize tb z i = b5
    revert b3 b4 b5; decide
theorem left_2 (hx : U x) (hy : U y) (hz : U z) : leftI 2 x y z = bits .andNot .u32 z x := by
  obtain ⟨v, f⟩ := left_F u2 hx hy hz
  exact U_ext v (hz.andNot hx) fun i => by
    rw [f, tb_andNot hz hx, t2, t2, t2]
    generalize tb x i = b3; generalize tb y i = b4; generalize tb z i = b5
    revert b3 b4 b5; decide
theorem left_4 (hx : U x) (hy : U y) (hz : U z) : leftI 4 x y z = bits .andNot .u32 x z := by
  obtain ⟨v, f⟩ := left_F u4 hx hy hz
  exact U_ext v (hx.andNot hz) fun i => by
    rw [f, tb_andNot hx hz, t4, t4, t4]
    generalize tb x i = b3; generalize tb y i = b4; generalize tb z i = b5
    revert b3 b4 b5; decide
/-- Two masks together. -/
theorem left_or (hm : U m) (ho : U o) (hx : U x) (hy : U y) (hz : U z) : leftI (bits .or .u32 m o) x y z = bits .and .u32 (leftI m x y z) (leftI o x y z) := by
  obtain ⟨v, f⟩ := left_F (hm.or ho) hx hy hz
  obtain ⟨v1, f1⟩ := left_F hm hx hy hz
  obtain ⟨v2, f2⟩ := left_F ho hx hy hz
  exact U_ext v (v1.and v2) fun i => by
    rw [f, tb_and v1 v2, f1, f2, tb_or hm ho, tb_or hm ho, tb_or hm ho]
    generalize tb m 0 = b0; generalize tb m 1 = b1; generalize tb m 2 = b2; generalize tb o 0 = c0; generalize tb o 1 = c1; generalize tb o 2 = c2; generalize tb x i = b3; generalize tb y i = b4; generalize tb z i = b5
    revert b0 b1 b2 c0 c1 c2 b3 b4 b5; decide
/-- The bits above the three play no part. -/
theorem left_low (hm : U m) (hx : U x) (hy : U y) (hz : U z) : leftI (bits .and .u32 m 7) x y z = leftI m x y z := by
  obtain ⟨v, f⟩ := left_F (hm.and u7) hx hy hz
  obtain ⟨v1, f1⟩ := left_F hm hx hy hz
  exact U_ext v v1 fun i => by
    rw [f, f1, tb_and hm u7, tb_and hm u7, tb_and hm u7, t7, t7, t7]
    simp
/-- Never more than READ and EXECUTE stand for. -/
theorem left_within (hm : U m) (hx : U x) (hy : U y) (hz : U z) : bits .andNot .u32 (leftI m x y z) (bits .or .u32 x z) = 0 := by
  obtain ⟨v, f⟩ := left_F hm hx hy hz
  exact U_ext (v.andNot (hx.or hz)) ⟨by omega, by omega⟩ fun i => by
    rw [tb_andNot v (hx.or hz), f, tb_or hx hz, show tb 0 i = false from by simp [tb]]
    generalize tb m 0 = b0; generalize tb m 1 = b1; generalize tb m 2 = b2; generalize tb x i = b3; generalize tb y i = b4; generalize tb z i = b5
    revert b0 b1 b2 b3 b4 b5; decide
end

/-! ### The same of labelAllows -/
theorem la_dom (mask : Int) {r w e a : Int} (hr : U r) (hw : U w) (he : U e) (ha : U a) : laI mask true r w e a = bits .or .u32 (bits .or .u32 (imgR r w e a) (imgW w e a)) (imgE e a) := by
  unfold laI; rw [if_pos rfl, mapR hr hw he ha, mapW hr hw he ha, mapE hr hw he ha]
theorem la_non (mask : Int) {r w e a : Int} (hr : U r) (hw : U w) (he : U e) (ha : U a) : laI mask false r w e a = leftI mask (imgR r w e a) (imgW w e a) (imgE e a) := by
  unfold laI; rw [if_neg (by simp), mapR hr hw he ha, mapW hr hw he ha, mapE hr hw he ha]
end Go.Proofs.Qxb6003625a
