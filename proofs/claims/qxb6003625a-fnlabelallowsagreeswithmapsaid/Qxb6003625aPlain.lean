import Derived.Test.Qxb6003625aImages
namespace Go.Proofs.Qxb6003625a
open Go.RowKit
set_option linter.unusedVariables false

/-! ### From the model's bit operations to bits -/
def U (x : Int) : Prop := 0 ≤ x ∧ x < 4294967296
def tb (x : Int) (i : Nat) : Bool := x.toNat.testBit i

theorem tb_high {x : Int} (h : U x) {i : Nat} (hi : 32 ≤ i) : tb x i = false := by
  unfold tb
  apply Nat.testBit_lt_two_pow
  have h2 : (2 : Nat) ^ 32 ≤ 2 ^ i := Nat.pow_le_pow_right (by omega) hi
  have := h.2
  have h3 : x.toNat < 2 ^ 32 := by have := h.1; omega
  omega

theorem and_val {x y : Int} (hx : U x) (hy : U y) : bits .and .u32 x y = ((x.toNat &&& y.toNat : Nat) : Int) := u32_and x y hx.1 hx.2 hy.1 hy.2
theorem or_val {x y : Int} (hx : U x) (hy : U y) : bits .or .u32 x y = ((x.toNat ||| y.toNat : Nat) : Int) := u32_or x y hx.1 hx.2 hy.1 hy.2
theorem andNot_val {x y : Int} (hx : U x) (hy : U y) : bits .andNot .u32 x y = ((x.toNat &&& (4294967295 - y.toNat) : Nat) : Int) := u32_andNot x y hx.1 hx.2 hy.1 hy.2

theorem U.and {x y : Int} (hx : U x) (hy : U y) : U (bits .and .u32 x y) := by
  rw [and_val hx hy]
  have h : x.toNat &&& y.toNat ≤ x.toNat := Nat.and_le_left
  exact ⟨by omega, by have := hx.1; have := hx.2; omega⟩
theorem U.or {x y : Int} (hx : U x) (hy : U y) : U (bits .or .u32 x y) := by
  rw [or_val hx hy]
  have h : x.toNat ||| y.toNat < 2 ^ 32 := Nat.or_lt_two_pow (by have := hx.1; have := hx.2; omega) (by have := hy.1; have := hy.2; omega)
  exact ⟨by omega, by omega⟩
theorem U.andNot {x y : Int} (hx : U x) (hy : U y) : U (bits .andNot .u32 x y) := by
  rw [andNot_val hx hy]
  have h : x.toNat &&& (4294967295 - y.toNat) ≤ x.toNat := Nat.and_le_left
  exact ⟨by omega, by have := hx.1; have := hx.2; omega⟩

theorem tb_and {x y : Int} (hx : U x) (hy : U y) (i : Nat) : tb (bits .and .u32 x y) i = (tb x i && tb y i) := by
  rw [and_val hx hy]; unfold tb; rw [Int.toNat_natCast, Nat.testBit_and]
theorem tb_or {x y : Int} (hx : U x) (hy : U y) (i : Nat) : tb (bits .or .u32 x y) i = (tb x i || tb y i) := by
  rw [or_val hx hy]; unfold tb; rw [Int.toNat_natCast, Nat.testBit_or]
theorem tb_andNot {x y : Int} (hx : U x) (hy : U y) (i : Nat) : tb (bits .andNot .u32 x y) i = (tb x i && !(tb y i)) := by
  by_cases hi : 32 ≤ i
  · rw [tb_high (hx.andNot hy) hi, tb_high hx hi]; rfl
  · rw [andNot_val hx hy]; unfold tb
    rw [Int.toNat_natCast, Nat.testBit_and]
    have e : 4294967295 - y.toNat = 2 ^ 32 - (y.toNat + 1) := by have := hy.1; have := hy.2; omega
    rw [e, Nat.testBit_two_pow_sub_succ (by have := hy.1; have := hy.2; omega)]
    simp [show i < 32 by omega]

theorem U_ext {x y : Int} (hx : U x) (hy : U y) (h : ∀ i, tb x i = tb y i) : x = y := by
  have := Nat.eq_of_testBit_eq (x := x.toNat) (y := y.toNat) h
  have := hx.1; have := hy.1; omega

/-- A test on one bit. -/
theorem tb_pow (k : Nat) (c : Int) (hc : c.toNat = 2 ^ k) (i : Nat) : tb c i = (i == k) := by
  unfold tb
  rw [hc, Nat.testBit_two_pow]
  by_cases h : k = i
  · subst h; simp
  · rw [decide_eq_false h]; exact (beq_eq_false_iff_ne.2 fun e => h e.symm).symm
theorem test_bit {x : Int} (hx : U x) (k : Nat) (c : Int) (hc : c.toNat = 2 ^ k) (hu : U c) : (bits .and .u32 x c != 0) = tb x k := by
  have hz : U 0 := ⟨by omega, by omega⟩
  cases h : tb x k
  · have : bits .and .u32 x c = 0 := U_ext (hx.and hu) hz fun i => by
      rw [tb_and hx hu, tb_pow k c hc]
      by_cases e : i = k
      · subst e; rw [h]; simp [tb]
      · rw [beq_eq_false_iff_ne.2 e]; simp [tb]
    rw [this]; rfl
  · rw [bne_iff_ne]
    intro e
    have h2 := tb_and hx hu k
    rw [e, h, tb_pow k c hc] at h2
    simp [tb] at h2

theorem uGR : U 2147483648 := ⟨by omega, by omega⟩
theorem uGW : U 1073741824 := ⟨by omega, by omega⟩
theorem uGE : U 536870912 := ⟨by omega, by omega⟩
theorem uGA : U 268435456 := ⟨by omega, by omega⟩
theorem tGR (i : Nat) : tb 2147483648 i = (i == 31) := tb_pow 31 _ (by decide) i
theorem tGW (i : Nat) : tb 1073741824 i = (i == 30) := tb_pow 30 _ (by decide) i
theorem tGE (i : Nat) : tb 536870912 i = (i == 29) := tb_pow 29 _ (by decide) i
theorem tGA (i : Nat) : tb 268435456 i = (i == 28) := tb_pow 28 _ (by decide) i

/-! ### The plain functions, bit by bit -/
def stepF (m : Nat → Bool) (k : Nat) (v : Nat → Bool) : Nat → Bool := fun i => if m k = true then ((m i && !(i == k)) || v i) else m i
def mapF (r w e a m : Nat → Bool) : Nat → Bool := stepF (stepF (stepF (stepF m 31 r) 30 w) 29 e) 28 a
def orIfF (t : Nat → Bool) (k : Nat) (x y : Nat → Bool) : Nat → Bool := fun i => if t k = true then (x i || y i) else x i
def imgEF (e a : Nat → Bool) : Nat → Bool := orIfF e 28 (fun i => e i && !(i == 28)) a
def imgWF (w e a : Nat → Bool) : Nat → Bool := orIfF w 28 (orIfF w 29 (fun i => w i && !(i == 29 || i == 28)) (imgEF e a)) a
def imgRF (r w e a : Nat → Bool) : Nat → Bool := orIfF r 28 (orIfF r 29 (orIfF r 30 (fun i => r i && !(i == 30 || i == 29 || i == 28)) (imgWF w e a)) (imgEF e a)) a

theorem step_F {m v : Int} (hm : U m) (hv : U v) (k : Nat) (c : Int) (hc : c.toNat = 2 ^ k) (hu : U c) : U (step m c v) ∧ ∀ i, tb (step m c v) i = stepF (tb m) k (tb v) i := by
  have ht := test_bit hm k c hc hu
  unfold step stepF
  rw [ht]
  cases tb m k
  · exact ⟨hm, fun i => rfl⟩
  · exact ⟨(hm.andNot hu).or hv, fun i => by simp only [if_true]; rw [tb_or (hm.andNot hu) hv, tb_andNot hm hu, tb_pow k c hc]⟩
theorem stepF_congr {m m' : Nat → Bool} (k : Nat) (v : Nat → Bool) (h : ∀ i, m i = m' i) (i : Nat) : stepF m k v i = stepF m' k v i := by
  unfold stepF; rw [h k, h i]
theorem map_F {r w e a m : Int} (hr : U r) (hw : U w) (he : U e) (ha : U a) (hm : U m) : U (mapI r w e a m) ∧ ∀ i, tb (mapI r w e a m) i = mapF (tb r) (tb w) (tb e) (tb a) (tb m) i := by
  obtain ⟨u1, f1⟩ := step_F hm hr 31 2147483648 (by decide) uGR
  obtain ⟨u2, f2⟩ := step_F u1 hw 30 1073741824 (by decide) uGW
  obtain ⟨u3, f3⟩ := step_F u2 he 29 536870912 (by decide) uGE
  obtain ⟨u4, f4⟩ := step_F u3 ha 28 268435456 (by decide) uGA
  refine ⟨u4, fun i => ?_⟩
  unfold mapF mapI
  rw [f4]
  refine stepF_congr _ _ (fun j => ?_) i
  rw [f3]
  refine stepF_congr _ _ (fun j => ?_) j
  rw [f2]
  refine stepF_congr _ _ (fun j => ?_) j
  exact f1 j
theorem orIf_F {t x y : Int} (ht : U t) (hx : U x) (hy : U y) (k : Nat) (c : Int) (hc : c.toNat = 2 ^ k) (hu : U c) : U (orIf t c x y) ∧ ∀ i, tb (orIf t c x y) i = orIfF (tb t) k (tb x) (tb y) i := by
  have hb := test_bit ht k c hc hu
  unfold orIf orIfF
  rw [hb]
  cases tb t k
  · exact ⟨hx, fun i => rfl⟩
  · exact ⟨hx.or hy, fun i => by simp only [if_true]; rw [tb_or hx hy]⟩
theorem orIfF_congr {x x' y y' : Nat → Bool} (t : Nat → Bool) (k : Nat) (hx : ∀ i, x i = x' i) (hy : ∀ i, y i = y' i) (i : Nat) : orIfF t k x y i = orIfF t k x' y' i := by
  unfold orIfF; rw [hx i, hy i]
theorem u805 : U 805306368 := ⟨by omega, by omega⟩
theorem u1879 : U 1879048192 := ⟨by omega, by omega⟩
theorem t805 (i : Nat) : tb 805306368 i = (i == 29 || i == 28) := by
  have : (805306368 : Int) = bits .or .u32 536870912 268435456 := by decide
  rw [this, tb_or uGE uGA, tGE, tGA]
theorem t1879 (i : Nat) : tb 1879048192 i = (i == 30 || i == 29 || i == 28) := by
  have : (1879048192 : Int) = bits .or .u32 (bits .or .u32 1073741824 536870912) 268435456 := by decide
  rw [this, tb_or (uGW.or uGE) uGA, tb_or uGW uGE, tGW, tGE, tGA]
theorem imgE_F {e a : Int} (he : U e) (ha : U a) : U (imgE e a) ∧ ∀ i, tb (imgE e a) i = imgEF (tb e) (tb a) i := by
  obtain ⟨u1, f1⟩ := orIf_F he (he.andNot uGA) ha 28 268435456 (by decide) uGA
  exact ⟨u1, fun i => (f1 i).trans (orIfF_congr _ _ (fun j => by rw [tb_andNot he uGA, tGA]) (fun j => rfl) i)⟩
theorem imgW_F {w e a : Int} (hw : U w) (he : U e) (ha : U a) : U (imgW w e a) ∧ ∀ i, tb (imgW w e a) i = imgWF (tb w) (tb e) (tb a) i := by
  obtain ⟨u0, f0⟩ := imgE_F he ha
  obtain ⟨u1, f1⟩ := orIf_F hw (hw.andNot u805) u0 29 536870912 (by decide) uGE
  obtain ⟨u2, f2⟩ := orIf_F hw u1 ha 28 268435456 (by decide) uGA
  exact ⟨u2, fun i => (f2 i).trans (orIfF_congr _ _ (fun j => (f1 j).trans (orIfF_congr _ _ (fun j => by rw [tb_andNot hw u805, t805]) f0 j)) (fun j => rfl) i)⟩
theorem imgR_F {r w e a : Int} (hr : U r) (hw : U w) (he : U e) (ha : U a) : U (imgR r w e a) ∧ ∀ i, tb (imgR r w e a) i = imgRF (tb r) (tb w) (tb e) (tb a) i := by
  obtain ⟨u0, f0⟩ := imgE_F he ha
  obtain ⟨u1, f1⟩ := imgW_F hw he ha
  obtain ⟨u2, f2⟩ := orIf_F hr (hr.andNot u1879) u1 30 1073741824 (by decide) uGW
  obtain ⟨u3, f3⟩ := orIf_F hr u2 u0 29 536870912 (by decide) uGE
  obtain ⟨u4, f4⟩ := orIf_F hr u3 ha 28 268435456 (by decide) uGA
  exact ⟨u4, fun i => (f4 i).trans (orIfF_congr _ _ (fun j => (f3 j).trans (orIfF_congr _ _ (fun j => (f2 j).trans (orIfF_congr _ _ (fun j => by rw [tb_andNot hr u1879, t1879]) f1 j)) f0 j)) (fun j => rfl) i)⟩
end Go.Proofs.Qxb6003625a
