import Derived.Test.Qxb6003697aRows
import Derived.WalkKit
import Derived.ProofKit
import Derived.OpenShut
import Derived.ShutString
import Derived.ChangeOld
import Derived.Below
import Derived.WalkLawsBesides
import Derived.WalkSpells
import Derived.Outline
namespace Go.Proofs.Qxb6003697a
open Go.RowKit
set_option linter.unusedVariables false

def sAt (ss : List ByteArray) (i : Nat) : ByteArray := ss.getD i ByteArray.empty
/-- The strings ss lie at the slice's address a (an empty row asks nothing). -/
def SRow (w : World) (a : Option Addr) (ss : List ByteArray) : Prop :=
  ss = [] ∨ ∃ b off, a = some ⟨b, off, none⟩ ∧ ∀ i, i < ss.length → w.cell? ⟨b, off + i, none⟩ = some (.string (sAt ss i))
def SSize (ss : List ByteArray) : Prop := ∀ i, (sAt ss i).size ≤ maxLen

theorem srow_at {w : World} {a : Option Addr} {ss : List ByteArray} {k : Nat} (h : SRow w a ss) (hk : k < ss.length) :
    ∃ b off, a = some ⟨b, off, none⟩ ∧ ∀ i, i < ss.length → w.cell? ⟨b, off + i, none⟩ = some (.string (sAt ss i)) := by
  rcases h with h | h
  · subst h; simp at hk
  · exact h
theorem srow_below {w w' : World} {a : Option Addr} {ss : List ByteArray} (h : SRow w a ss) (hb : Below w.heap.size w w') : SRow w' a ss := by
  rcases h with h | ⟨b, off, rfl, h⟩
  · exact Or.inl h
  · exact Or.inr ⟨b, off, rfl, fun i hi => (hb.cell (p := ⟨b, off + i, none⟩) (block_lt_of_cell (h i hi))).trans (h i hi)⟩

/-! ### zzCapLen, zzStringsBytes -/
set_option maxHeartbeats 400000 in
theorem cap9 (n : Nat) (hn : n ≤ maxLen) (w : World) : Calls Try.prog 9 #[.int .i64 n] w fun e w' => ∃ m : Nat, m ≤ 1048577 ∧ e = .returned (.int .i64 m) ∧ w' = w := by
  unfold maxLen at hn
  by_cases h : n ≤ 1048576
  · go_enter Try.func9, Try.ntmps9
    go_wp2
    go_ret
    exact ⟨n, by omega, rfl, rfl⟩
  · go_enter Try.func9, Try.ntmps9
    go_wp2
    go_ret
    exact ⟨1048577, by omega, rfl, rfl⟩

set_option maxHeartbeats 400000 in
theorem bytes8 (a : Option Addr) (cap : Nat) (ss : List ByteArray) (w : World) (hr : SRow w a ss) (hz : SSize ss) (hn : ss.length ≤ 1048576) :
    Calls Try.prog 8 #[.slice a ss.length cap] w fun e w' => ∃ m : Nat, m ≤ 1048577 ∧ e = .returned (.int .i64 m) ∧ w' = w := by
  go_enter Try.func8, Try.ntmps8
  go_wp2
  go_loop [3, 4] (fun t i => ∃ k n : Nat, k ≤ ss.length ∧ i = .int .i64 k ∧ n ≤ 1048576 ∧ t = .int .i64 n) (fun _ i => ss.length - (intOf i).toNat)
  case atStart => exact ⟨0, 0, Nat.zero_le _, rfl, Nat.zero_le _, rfl⟩
  case round =>
    obtain ⟨k, n, hk, rfl, hn1, rfl⟩ := hrel
    by_cases hlt : k < ss.length
    · obtain ⟨b, off, rfl, hcell⟩ := srow_at hr hlt
      have hc := hcell k hlt
      have hs := hz k
      obtain ⟨s, hs'⟩ : ∃ s, s = sAt ss k := ⟨_, rfl⟩
      rw [← hs'] at hc hs
      clear hs' hcell hr hz
      have hs2 : s.size ≤ 9223372036854775807 := by unfold maxLen at hs; exact hs
      go_wp2_with (go_at_call 9; refine (cap9 s.size hs _).mono ?_; rintro e w' ⟨m, hm, rfl, rfl⟩)
      · go_ret
        exact ⟨1048577, by omega, rfl, rfl⟩
      · go_round
        case rel => exact ⟨k + 1, n + (16 + m), by omega, by go_num, by omega, by go_num⟩
        case measure => simp [intOf]; omega
    · go_wp2
      go_ret
      exact ⟨n, by omega, rfl, rfl⟩
end Go.Proofs.Qxb6003697a
