import Derived.Test.Qxb6003697aSig
import Derived.Test.Qxb6003697aThen
namespace Go.Proofs.Qxb6003697a
set_option linter.unusedVariables false

/-- Decoding looks at four bytes alone. -/
theorem decode_local (X Y : ByteArray) (p : Nat) (hx : p + 4 ≤ X.size) (hy : p + 4 ≤ Y.size) (h : ∀ k, k < 4 → Y.get! (p + k) = X.get! (p + k)) : Utf8.decode Y p = Utf8.decode X p := by
  have x1 : decide (p + 1 < X.size) = true := decide_eq_true (by omega)
  have x2 : decide (p + 2 < X.size) = true := decide_eq_true (by omega)
  have x3 : decide (p + 3 < X.size) = true := decide_eq_true (by omega)
  have y1 : decide (p + 1 < Y.size) = true := decide_eq_true (by omega)
  have y2 : decide (p + 2 < Y.size) = true := decide_eq_true (by omega)
  have y3 : decide (p + 3 < Y.size) = true := decide_eq_true (by omega)
  unfold Utf8.decode
  simp only [h 0 (by omega), h 1 (by omega), h 2 (by omega), h 3 (by omega), x1, x2, x3, y1, y2, y3]

theorem width_le (s : ByteArray) (p : Nat) : (Utf8.decode s p).2 ≤ 4 := by
  unfold Utf8.decode
  simp only
  repeat' split
  all_goals omega

theorem posn_le (s : ByteArray) : ∀ k, posn s k ≤ 4 * k
  | 0 => Nat.le_refl _
  | k + 1 => by
    have ih := posn_le s k
    have hw := width_le s (posn s k)
    show (if posn s k < s.size then _ else _) ≤ _
    split <;> omega

theorem get_cut (X : ByteArray) (n j : Nat) (h : j < n) (hn : n ≤ X.size) : (X.extract 0 n).get! j = X.get! j := by
  have hs : (X.extract 0 n).size = n := by rw [ByteArray.size_extract]; omega
  have e1 : ∀ (s : ByteArray) (hj : j < s.size), s.get! j = s[j] := fun s hj => by
    simp [ByteArray.get!, getElem!_pos, hj]
    rfl
  rw [e1 _ (by omega), e1 X (by omega), ByteArray.getElem_extract]
  simp

theorem posn_cut (X : ByteArray) (hx : 800 < X.size) : ∀ k, k ≤ 200 → posn (X.extract 0 800) k = posn X k
  | 0, _ => rfl
  | k + 1, hk => by
    have ih := posn_cut X hx k (by omega)
    have hs : (X.extract 0 800).size = 800 := by rw [ByteArray.size_extract]; omega
    have hl := posn_le X k
    show (if posn (X.extract 0 800) k < (X.extract 0 800).size then _ else _) = (if posn X k < X.size then _ else _)
    rw [ih, hs, if_pos (by omega), if_pos (by omega), decode_local X (X.extract 0 800) (posn X k) (by omega) (by omega) (fun j hj => get_cut X 800 _ (by omega) (by omega))]

theorem sig_law (X : ByteArray) : sig (X.extract 0 (min X.size 800)) = sig X := by
  by_cases hx : X.size ≤ 800
  · rw [Nat.min_eq_left hx, extract_all]
  · rw [Nat.min_eq_right (by omega)]
    have hs : (X.extract 0 800).size = 800 := by rw [ByteArray.size_extract]; omega
    have hp := posn_cut X (by omega) 200 (Nat.le_refl _)
    have hl := posn_le X 200
    unfold sig
    rw [hp, hs, if_pos (show posn X 200 < X.size by omega)]
    by_cases h : posn X 200 < 800
    · rw [if_pos h, ByteArray.extract_extract]
      congr 1
      omega
    · rw [if_neg h, show posn X 200 = 800 by omega]
end Go.Proofs.Qxb6003697a
