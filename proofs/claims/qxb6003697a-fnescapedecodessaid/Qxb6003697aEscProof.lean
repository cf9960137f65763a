import Derived.Test.Qxb6003697aHexB
import Derived.Test.Qxb6003697aHexC
import Derived.WalkKit
import Derived.ProofKit
import Derived.OpenShut
import Derived.ShutString
namespace Go.Proofs.Qxb6003697a.fnEscapeDecodes
open Go.ChangeShapes Go.WideShapes Go.ChangeAt Go.RowKit
open Go.ChangeMaps (open_string shut_string)
set_option linter.unusedVariables false      -- a walk need not use every 'w<i>' (that an integer argument fits its kind)

theorem own : ownKnob Try.prog.godebug = none := by kernel_rfl

theorem bd16 {x : Int} (h : (Lit.int .u16 x).wf = true) : 0 ≤ x ∧ x < 65536 := by
  simp [Lit.wf, IntKind.min, IntKind.max, IntKind.signed, IntKind.bits] at h
  omega
theorem bd8 {x : Int} (h : (Lit.int .u8 x).wf = true) : 0 ≤ x ∧ x < 256 := by
  simp [Lit.wf, IntKind.min, IntKind.max, IntKind.signed, IntKind.bits] at h
  omega
theorem walk (a0 : Int) (a1 : Int) (a2 : Bool) (w0 : (Lit.int .u16 a0).wf = true) (w1 : (Lit.int .u8 a1).wf = true) (w : World) :
    Calls Try.prog 5 #[.int .u16 a0, .int .u8 a1, .bool a2] w fun e w' => e = .returned (.bool true) ∧ Below w.heap.size w w' := by
  obtain ⟨h0, h1⟩ := bd16 w0
  obtain ⟨u0, u1⟩ := bd8 w1
  have e0 := and15 (a0 / 4096) (by omega) (by omega)
  have e1 := and15 (a0 / 256) (by omega) (by omega)
  have e2 := and15 (a0 / 16) (by omega) (by omega)
  have e3 := and15 a0 h0 h1
  have hc : Hid (a0 = 4096 * (a0 / 4096 % 16) + 256 * (a0 / 256 % 16) + 16 * (a0 / 16 % 16) + a0 % 16) := by unfold Hid; omega
  cases a2
  · exact esc_long a0 a1 _ _ _ _ w h0 h1 u0 u1 e0 e1 e2 e3 (by omega) (by omega) (by omega) (by omega) (by omega) (by omega) (by omega) (by omega) hc
  · by_cases hw : a0 < 256
    · by_cases hs : a0 = 34 ∨ a0 = 92 ∨ a0 = 47 ∨ a0 = 8 ∨ a0 = 12 ∨ a0 = 10 ∨ a0 = 13 ∨ a0 = 9
      · exact esc_short a0 a1 hs w
      · refine esc_plain a0 a1 _ _ _ _ w h0 h1 hw ?_ u0 u1 e0 e1 e2 e3 (by omega) (by omega) (by omega) (by omega) (by omega) (by omega) (by omega) (by omega) hc
        unfold NoShort
        simp only [beq_eq_false_iff_ne]
        omega
    · exact esc_wide a0 a1 _ _ _ _ w h0 h1 hw u0 u1 e0 e1 e2 e3 (by omega) (by omega) (by omega) (by omega) (by omega) (by omega) (by omega) (by omega) hc


/-! ### THE ROW's STEP: WRITTEN OUT: LEAVE IT -/
set_option maxRecDepth 100000 in
theorem lifted (os : Os) (started : os.Started) (H : Type) (enc : TypeId × Value → H) :
    ReturnsInHanded {} Try.checked os 5 .any (Rows.fnEscapeDecodesSpec.pre6 enc Try.prog Try.f5 Rows.fnEscapeDecodesRow.domain false) (Rows.fnEscapeDecodesSpec.post enc Try.prog Try.f5 false true false false) := by
  refine returnsInHanded_of_change (C := Try.checked) own started (by kernel_rfl) Try.func5
    (ChangeSpec.witness6 (enc := enc) (C := Try.checked) false ⟨#[], #[.int .u16 0, .int .u8 0, .bool false], []⟩ 8 (by kernel_rfl) (by kernel_rfl) (by kernel_rfl) (by kernel_rfl)) ?_
  intro W base args ds gs before hval0 hW hcnd _
  have hval : ∀ (j : Nat) t v, Try.f5.params[j]? = some t → args[j]? = some v → Value.okWide Try.prog W .any base t v := hval0
  have hW' := hW
  obtain ⟨p, q, hA0, hV, rfl, hfz, hnd⟩ := hW
  have hA : DataW.TrodAll enc Try.prog W 0 (fun _ => true) true Try.f5.params.toList args.toList ds p := hA0
  rw [Try.params5] at hA hval
  obtain ⟨v0, vs0, d0, ds0, p0, q0, hargs, rfl, rfl, h0, r0⟩ := trodAll_cons hA
  obtain ⟨v1, vs1, d1, ds1, p1, q1, rfl, rfl, rfl, h1, r1⟩ := trodAll_cons r0
  obtain ⟨v2, vs2, d2, ds2, p2, q2, rfl, rfl, rfl, h2, r2⟩ := trodAll_cons r1
  obtain ⟨rfl, rfl, rfl⟩ := trodAll_nil r2
  obtain rfl : args = #[v0, v1, v2] := by cases args; simp_all
  obtain ⟨rfl, rfl⟩ := trodVars_none hV
  obtain ⟨a0, rfl, rfl, rfl, w0⟩ := open_int Try.underlying35 (hval 0 35 v0 rfl rfl) h0
  obtain ⟨a1, rfl, rfl, rfl, w1⟩ := open_int Try.underlying5 (hval 1 5 v1 rfl rfl) h1
  obtain ⟨a2, rfl, rfl, rfl⟩ := open_bool Try.underlying4 (hval 2 4 v2 rfl rfl) h2
  clear hA0 hval0
  simp only [List.append_nil] at hW'
  refine (walk a0 a1 a2 w0 w1 W).mono fun e W' ⟨he, bel⟩ => ?_
  subst he
  exact ⟨_, rfl, _, _, _, [], _, [], hW', trodAll_mk1 (shut_bool Try.underlying4 _), (trodAll_cons_mk (shut_int Try.underlying35 w0) (trodAll_cons_mk (shut_int Try.underlying5 w1) (trodAll_cons_mk (shut_bool Try.underlying4 _) trodAll_mk0))), rfl, bel.frame _, fun h => by cases h⟩

theorem over : Rows.fnEscapeDecodesRow.holds Try.pinned (OpenSpec.ofChange Rows.fnEscapeDecodesSpec) :=
  OpenClaim.holds_of_wide 5 Try.f5 rfl rfl rfl rfl rfl rfl rfl ⟨rfl, rfl, rfl, rfl, rfl⟩ rfl rfl rfl rfl rfl (by kernel_rfl) Try.func5 (by kernel_rfl)
    (of_decide_eq_true (by kernel_rfl)) (by unfold Func.isWrapper; first | (rw [if_pos (by decide +kernel)]; kernel_rfl) | (rw [if_neg (by decide +kernel)]; exact ⟨rfl, rfl⟩))
    (fun os started H enc _ => lifted os started H enc)

/-- THE STATEMENT -/
theorem proved : Rows.FnEscapeDecodesSaid :=
  over
#print axioms proved
end Go.Proofs.Qxb6003697a.fnEscapeDecodes
