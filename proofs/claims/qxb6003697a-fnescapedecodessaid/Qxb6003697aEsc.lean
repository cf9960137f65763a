import Derived.Test.Qxb6003697aRows
import Derived.WalkKit
import Derived.ProofKit
import Derived.OpenShut
import Derived.ShutString
import Derived.ChangeOld
import Derived.Below
import Derived.WalkLawsBesides
import Derived.WalkSpells
import Derived.Outline
namespace Go.Proofs.Qxb6003697a
open Go.RowKit
set_option linter.unusedVariables false

/-- x is a hex digit of value d. -/
def Hex (x d : Int) : Prop := (0 ≤ d ∧ d ≤ 9 ∧ x = 48 + d) ∨ (10 ≤ d ∧ d ≤ 15 ∧ x = 55 + d) ∨ (10 ≤ d ∧ d ≤ 15 ∧ x = 87 + d)

theorem ret_u8 {a b : Int} (h : a = b) : Ending.returned (.int .u8 a) = .returned (.int .u8 b) := by rw [h]
theorem ret_bool {a b : Bool} (h : a = b) : Ending.returned (.bool a) = .returned (.bool b) := by rw [h]

set_option maxHeartbeats 400000 in
theorem hex25 (x d : Int) (h : Hex x d) (w : World) : Calls Try.prog 25 #[.int .u8 x] w fun e w' => e = .returned (.int .u8 d) ∧ w' = w := by
  rcases h with ⟨h1, h2, h3⟩ | ⟨h1, h2, h3⟩ | ⟨h1, h2, h3⟩
  · have hx0 : 48 ≤ x := by omega
    have hx1 : x ≤ 57 := by omega
    have H : Hid (x = 48 + d) := h3
    clear h3
    go_enter Try.func25, Try.ntmps25
    go_wp2
    go_ret
    exact ⟨ret_u8 (by have := H.out; omega), rfl⟩
  · have hx0 : 65 ≤ x := by omega
    have hx1 : x ≤ 70 := by omega
    have H : Hid (x = 55 + d) := h3
    clear h3
    go_enter Try.func25, Try.ntmps25
    go_wp2
    go_ret
    exact ⟨ret_u8 (by have := H.out; omega), rfl⟩
  · have hx0 : 97 ≤ x := by omega
    have hx1 : x ≤ 102 := by omega
    have H : Hid (x = 87 + d) := h3
    clear h3
    go_enter Try.func25, Try.ntmps25
    go_wp2
    go_ret
    exact ⟨ret_u8 (by have := H.out; omega), rfl⟩

set_option maxHeartbeats 400000 in
theorem hex18 (x d : Int) (h : Hex x d) (w : World) : Calls Try.prog 18 #[.int .u8 x] w fun e w' => e = .returned (.int .u8 d) ∧ w' = w := by
  go_enter Try.func18, Try.ntmps18
  go_wp2_with fail
  refine (hex25 x d h w).mono ?_
  rintro e w' ⟨rfl, rfl⟩
  go_wp2
  go_ret
  exact ⟨rfl, rfl⟩
end Go.Proofs.Qxb6003697a
