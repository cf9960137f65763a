import Derived.Test.Qxb6003697aClone
import Derived.Deep.QuietTactic
import Derived.BigQuiet
namespace Go.Proofs.Qxb6003697a
open Go.RowKit
set_option linter.unusedVariables false

/-- Where the k-th character begins. -/
def posn (s : ByteArray) : Nat → Nat
  | 0 => 0
  | k + 1 => if posn s k < s.size then posn s k + (Utf8.decode s (posn s k)).2 else posn s k
/-- The signature. -/
def sig (s : ByteArray) : ByteArray := if posn s 200 < s.size then s.extract 0 (posn s 200) else s

theorem posn_succ {s : ByteArray} {k p : Nat} (hp : p = posn s k) (h : p < s.size) : p + (Utf8.decode s p).2 = posn s (k + 1) := by
  subst hp; show _ = if posn s k < s.size then _ else _; rw [if_pos h]
theorem posn_stay {s : ByteArray} {k : Nat} (h : ¬ posn s k < s.size) : ∀ j, posn s (k + j) = posn s k
  | 0 => rfl
  | j + 1 => by
    have ih := posn_stay h j
    show (if posn s (k + j) < s.size then _ else _) = _
    rw [ih, if_neg h]; exact ih
theorem sig_whole {s : ByteArray} {k p : Nat} (hp : p = posn s k) (hk : k ≤ 200) (h : ¬ p < s.size) : sig s = s := by
  subst hp
  have := posn_stay h (200 - k)
  rw [show k + (200 - k) = 200 by omega] at this
  unfold sig
  rw [this, if_neg h]
theorem sig_cut {s : ByteArray} {p : Nat} (hp : p = posn s 200) (h : p < s.size) : sig s = s.extract 0 p := by
  subst hp; unfold sig; rw [if_pos h]

theorem ret_sig {a b : ByteArray} (h : a = b) : Ending.returned (.tuple #[.string a, .bool true]) = .returned (.tuple #[.string b, .bool true]) := by rw [h]

set_option maxHeartbeats 800000 in
theorem sig15 (a : Option Addr) (n cap : Nat) (s : ByteArray) (w : World) (hn : 0 < n) (hs : s.size ≤ 4194304) :
    Calls Try.prog 15 #[.agg #[.slice a n cap, .string s]] w fun e w' => e = .returned (.tuple #[.string (sig s), .bool true]) ∧ Below w.heap.size w w' := by
  have hnp : (0 : Int) < (n : Int) := by omega
  go_enter Try.func15, Try.ntmps15
  go_wp2
  have hbx : Below w.heap.size w (w.alloc (.cells #[.slice a n cap, .string s] 28)) := (Below.refl _ _).alloc (Nat.le_refl _) _
  go_loopw [4, 5] (fun t _ wr => ∃ k p : Nat, k ≤ 200 ∧ t = .int .i64 k ∧ Hid (p = posn s k) ∧ wr = (w.alloc (.cells #[.slice a n cap, .string s] 28)).iter s p) (fun t _ _ => 201 - (intOf t).toNat)
  case atStart => exact ⟨0, 0, Nat.zero_le _, rfl, rfl, rfl⟩
  case round =>
    obtain ⟨k, p, hk, rfl, HP, rfl⟩ := hrel
    have hBp : ∀ q, Below w.heap.size w ((w.alloc (.cells #[.slice a n cap, .string s] 28)).iter s q) := fun q => hbx.alloc (by simp) _
    have hc0 : ∀ q, ((w.alloc (.cells #[.slice a n cap, .string s] 28)).iter s q).cell? ⟨w.heap.size, 0, none⟩ = some (.slice a n cap) := fun q => by
      rw [World.iter, World.cell?_alloc_past _ _ _ (by simp), cell_of_row _ _ 0 _ 28 (0, 0) (heap_alloc_new w _)]; rfl
    have hc1 : ∀ q, ((w.alloc (.cells #[.slice a n cap, .string s] 28)).iter s q).cell? ⟨w.heap.size, 1, none⟩ = some (.string s) := fun q => by
      rw [World.iter, World.cell?_alloc_past _ _ _ (by simp), cell_of_row _ _ 1 _ 28 (0, 0) (heap_alloc_new w _)]; rfl
    clear hbx
    by_cases hlt : p < s.size
    · have hnx := fun ty => run_next_any (P := Try.prog) (w.alloc (.cells #[.slice a n cap, .string s] 28)) s p ty hlt
      simp only [World.size_alloc] at hnx
      have HN := posn_succ HP.out hlt
      have HN' : Hid (p + (Utf8.decode s p).2 = posn s (k + 1)) := HN
      clear HN
      obtain ⟨p', hp'⟩ : ∃ p', p' = p + (Utf8.decode s p).2 := ⟨_, rfl⟩
      obtain ⟨r, hr⟩ : ∃ r, r = (Utf8.decode s p).1 := ⟨_, rfl⟩
      rw [← hp'] at hnx HN'
      rw [← hr] at hnx
      clear hp' hr
      by_cases hk2 : k < 200
      · have hne : ((k : Int) == 200) = false := by simp; omega
        go_wp2
        go_roundw
        case rel => exact ⟨k + 1, p', by omega, by go_num, HN', rfl⟩
        case measure => simp [intOf]; omega
      · obtain rfl : k = 200 := by omega
        go_wp2
        go_ret2
        exact ⟨ret_sig (sig_cut HP.out hlt).symm, hBp _⟩
    · have hnx := fun ty => run_next_end (P := Try.prog) (w.alloc (.cells #[.slice a n cap, .string s] 28)) s p ty hlt
      simp only [World.size_alloc] at hnx
      go_wp2
      go_quiet (fail)
      go_wp2
      go_ret2
      exact ⟨ret_sig (sig_whole HP.out hk hlt).symm, ⟨(hBp p).os, (hBp p).tape, (hBp p).output, (hBp p).size, (hBp p).block⟩⟩
end Go.Proofs.Qxb6003697a
