import Derived.Test.Qxb6003697aStrs
namespace Go.Proofs.Qxb6003697a
open Go.RowKit
set_option linter.unusedVariables false

/-- It answered a bool and left the world alone; if true, P. -/
def Sized (P : Prop) (w : World) (e : Ending) (w' : World) : Prop := ∃ q : Bool, e = .returned (.bool q) ∧ w' = w ∧ (q = true → P)
theorem sized_no {P : Prop} {w : World} : Sized P w (.returned (.bool false)) w := ⟨false, rfl, rfl, fun h => by cases h⟩
theorem sized_yes {P : Prop} {w : World} (h : P) : Sized P w (.returned (.bool true)) w := ⟨true, rfl, rfl, fun _ => h⟩

set_option maxHeartbeats 1600000 in
theorem size14 (a : Option Addr) (cap : Nat) (ss : List ByteArray) (an : ByteArray) (b : Option Addr) (cap' : Nat) (ts : List ByteArray) (bn : ByteArray) (w : World)
    (hr : SRow w a ss) (hr' : SRow w b ts) (hl : ss.length ≤ maxLen) (hl' : ts.length ≤ maxLen) (hz : SSize ss) (hz' : SSize ts) (ha : an.size ≤ maxLen) (hb : bn.size ≤ maxLen) :
    Calls Try.prog 14 #[.slice a ss.length cap, .string an, .slice b ts.length cap', .string bn] w fun e w' =>
      Sized (ss.length ≤ 1048576 ∧ an.size ≤ 1048576 ∧ ts.length ≤ 1048576 ∧ bn.size ≤ 1048576) w e w' := by
  unfold maxLen at hl hl' ha hb
  by_cases c1 : ss.length ≤ 1048576
  · go_enter Try.func14, Try.ntmps14
    go_wp2
    go_loop [9, 10] (fun t i => ∃ k n : Nat, k ≤ ss.length ∧ i = .int .i64 k ∧ n ≤ 1048576 ∧ t = .int .i64 n) (fun _ i => ss.length - (intOf i).toNat)
    case atStart => exact ⟨0, ss.length, Nat.zero_le _, rfl, c1, rfl⟩
    case round =>
      obtain ⟨k, n, hk, rfl, hn1, rfl⟩ := hrel
      by_cases hlt : k < ss.length
      · obtain ⟨bb, off, rfl, hcell⟩ := srow_at hr hlt
        have hc := hcell k hlt
        have hs := hz k
        obtain ⟨s, hs'⟩ : ∃ s, s = sAt ss k := ⟨_, rfl⟩
        rw [← hs'] at hc hs
        clear hs' hcell hr hz hr' hz'
        unfold maxLen at hs
        go_wp2
        · go_ret
          exact sized_no
        · go_ret
          exact sized_no
        · go_round
          case rel => exact ⟨k + 1, n + s.size, by omega, by go_num, by omega, by go_num⟩
          case measure => simp [intOf]; omega
      · clear hr hz
        by_cases c2 : an.size ≤ 1048576 ∧ n + an.size ≤ 1048576 ∧ ts.length ≤ 1048576 ∧ n + an.size + ts.length ≤ 1048576
        · obtain ⟨c2, c3, c4, c5⟩ := c2
          go_wp2
          go_loop [9, 11] (fun t i => ∃ k n : Nat, k ≤ ts.length ∧ i = .int .i64 k ∧ n ≤ 1048576 ∧ t = .int .i64 n) (fun _ i => ts.length - (intOf i).toNat)
          case atStart => exact ⟨0, n + an.size + ts.length, Nat.zero_le _, rfl, c5, by go_num⟩
          case round =>
            clear hlt hk hn1 c3 c5
            obtain ⟨k, n, hk, rfl, hn1, rfl⟩ := hrel
            by_cases hlt : k < ts.length
            · obtain ⟨bb, off, rfl, hcell⟩ := srow_at hr' hlt
              have hc := hcell k hlt
              have hs := hz' k
              obtain ⟨s, hs'⟩ : ∃ s, s = sAt ts k := ⟨_, rfl⟩
              rw [← hs'] at hc hs
              clear hs' hcell hr' hz'
              unfold maxLen at hs
              go_wp2
              · go_ret
                exact sized_no
              · go_ret
                exact sized_no
              · go_round
                case rel => exact ⟨k + 1, n + s.size, by omega, by go_num, by omega, by go_num⟩
                case measure => simp [intOf]; omega
            · clear hr' hz'
              go_wp2
              · go_ret
                exact sized_no
              · go_ret
                exact sized_no
              · go_ret
                exact sized_yes (by omega)
        · by_cases c3 : an.size ≤ 1048576
          · by_cases c4 : n + an.size ≤ 1048576
            · by_cases c5 : ts.length ≤ 1048576
              all_goals
                go_wp2
                go_ret
                exact sized_no
            · go_wp2
              go_ret
              exact sized_no
          · go_wp2
            go_ret
            exact sized_no
  · go_enter Try.func14, Try.ntmps14
    go_wp2
    go_ret
    exact sized_no
end Go.Proofs.Qxb6003697a
