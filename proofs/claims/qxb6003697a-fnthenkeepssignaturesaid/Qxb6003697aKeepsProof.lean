import Derived.Test.Qxb6003697aKeeps
import Derived.SliceStrings
namespace Go.Proofs.Qxb6003697a.fnThenKeepsSignature
open Go.ChangeShapes Go.WideShapes Go.ChangeAt Go.RowKit
open Go.ChangeMaps (open_string shut_string)
set_option linter.unusedVariables false

theorem own : ownKnob Try.prog.godebug = none := by kernel_rfl
theorem laidOut : laidOutB Try.prog = true := by kernel_rfl

/-- What the walk is told of a '[]string' that came in. -/
def IsStrs (w : World) (a : Option Addr) (len : Nat) (ss : List ByteArray) : Prop := ss.length = len ∧ len ≤ maxLen ∧ SRow w a ss ∧ SSize ss

theorem add_at (b off i : Nat) : (⟨b, off, none⟩ : Addr).add i = ⟨b, off + i, none⟩ := by unfold Addr.add; split <;> simp_all

theorem open_strs {H : Type} {enc : TypeId × Value → H} {W : World} {a0 : Option Addr} {len0 cap0 : Nat} {d0 : DataW H} {p0 : List MemPlace}
    (h0 : DataW.Trod enc Try.prog W 0 (fun _ => true) true 22 (.slice a0 len0 cap0) d0 p0) : ∃ ss, IsStrs W a0 len0 ss := by
  obtain ⟨fuel, hf⟩ := h0
  rcases open_strings Try.underlying22 Try.underlying9 (by kernel_rfl) hf with ⟨hcs, _⟩ | ⟨x, l, c, ss, hcs, _, hl, hm, hz, _, hcell, hws⟩
  · simp [Value.cells] at hcs
    obtain ⟨rfl, rfl, rfl⟩ := hcs
    exact ⟨[], rfl, Nat.zero_le _, Or.inl rfl, fun i => by simp [sAt]⟩
  · simp [Value.cells] at hcs
    obtain ⟨rfl, rfl, rfl⟩ := hcs
    have hz' : ss.length = cap0 := by simpa using hz
    have hlen : (ss.take len0).length = len0 := by rw [List.length_take]; omega
    have hget : ∀ i, i < len0 → sAt (ss.take len0) i = ss.getD i ByteArray.empty := fun i hi => by
      unfold sAt
      simp only [List.getD_eq_getElem?_getD, List.getElem?_take, if_pos hi]
    refine ⟨ss.take len0, hlen, Nat.le_trans hl hm, ?_, fun i => ?_⟩
    · by_cases he : len0 = 0
      · exact Or.inl (by rw [he]; rfl)
      · obtain ⟨b, off, spot⟩ := x
        have hspot : spot = none := by simpa [Addr.add] using World.cell?_spot (hcell 0 (by omega))
        subst hspot
        refine Or.inr ⟨b, off, rfl, fun i hi => ?_⟩
        rw [hlen] at hi
        rw [hget i hi, ← add_at]
        exact hcell i (by omega)
    · by_cases hi : i < len0
      · rw [hget i hi]
        refine hws _ ?_
        simp only [List.getD_eq_getElem?_getD, List.getElem?_eq_getElem (show i < ss.length by omega), Option.getD_some]
        exact List.getElem_mem _
      · have : sAt (ss.take len0) i = ByteArray.empty := by
          unfold sAt
          simp only [List.getD_eq_getElem?_getD, List.getElem?_take, if_neg hi, Option.getD_none]
        rw [this]
        exact Nat.zero_le _

theorem walk (a0 : Option Addr) (len0 cap0 : Nat) (s0 : List ByteArray) (a1 : ByteArray) (a2 : Option Addr) (len2 cap2 : Nat) (s2 : List ByteArray) (a3 : ByteArray) (w : World)
    (w0 : IsStrs w a0 len0 s0) (w1 : a1.size ≤ maxLen) (w2 : IsStrs w a2 len2 s2) (w3 : a3.size ≤ maxLen) :
    Calls Try.prog 4 #[.slice a0 len0 cap0, .string a1, .slice a2 len2 cap2, .string a3] w fun e w' => e = .returned (.bool true) ∧ Below w.heap.size w w' := by
  obtain ⟨rfl, hl, hr, hz⟩ := w0
  obtain ⟨rfl, hl', hr', hz'⟩ := w2
  exact keeps4 a0 cap0 s0 a1 a2 cap2 s2 a3 w hr hr' hl hl' hz hz' w1 w3

set_option maxRecDepth 100000 in
theorem lifted (os : Os) (started : os.Started) (H : Type) (enc : TypeId × Value → H) :
    ReturnsInHanded {} Try.checked os 4 .any (Rows.fnThenKeepsSignatureSpec.pre6 enc Try.prog Try.f4 Rows.fnThenKeepsSignatureRow.domain false) (Rows.fnThenKeepsSignatureSpec.post enc Try.prog Try.f4 false true false false) := by
  refine returnsInHanded_of_change (C := Try.checked) own started (by kernel_rfl) Try.func4
    (ChangeSpec.witness6 (enc := enc) (C := Try.checked) false ⟨#[], #[.slice none 0 0, .string ByteArray.empty, .slice none 0 0, .string ByteArray.empty], []⟩ 8 (by kernel_rfl) (by kernel_rfl) (by kernel_rfl) (by kernel_rfl)) ?_
  intro W base args ds gs before hval0 hW hcnd _
  have hval : ∀ (j : Nat) t v, Try.f4.params[j]? = some t → args[j]? = some v → Value.okWide Try.prog W .any base t v := hval0
  have hW' := hW
  obtain ⟨p, q, hA0, hV, rfl, hfz, hnd⟩ := hW
  have hA : DataW.TrodAll enc Try.prog W 0 (fun _ => true) true Try.f4.params.toList args.toList ds p := hA0
  rw [Try.params4] at hA hval
  obtain ⟨v0, vs0, d0, ds0, p0, q0, hargs, rfl, rfl, h0, r0⟩ := trodAll_cons hA
  obtain ⟨v1, vs1, d1, ds1, p1, q1, rfl, rfl, rfl, h1, r1⟩ := trodAll_cons r0
  obtain ⟨v2, vs2, d2, ds2, p2, q2, rfl, rfl, rfl, h2, r2⟩ := trodAll_cons r1
  obtain ⟨v3, vs3, d3, ds3, p3, q3, rfl, rfl, rfl, h3, r3⟩ := trodAll_cons r2
  obtain ⟨rfl, rfl, rfl⟩ := trodAll_nil r3
  obtain rfl : args = #[v0, v1, v2, v3] := by cases args; simp_all
  obtain ⟨rfl, rfl⟩ := trodVars_none hV
  obtain ⟨a0, len0, cap0, rfl⟩ := okWide_slice Try.underlying22 (hval 0 22 v0 rfl rfl)
  obtain ⟨a1, rfl, rfl, rfl, w1⟩ := open_string Try.underlying9 (hval 1 9 v1 rfl rfl) h1
  obtain ⟨a2, len2, cap2, rfl⟩ := okWide_slice Try.underlying22 (hval 2 22 v2 rfl rfl)
  obtain ⟨a3, rfl, rfl, rfl, w3⟩ := open_string Try.underlying9 (hval 3 9 v3 rfl rfl) h3
  have lt0 : ∀ x ∈ p0, x.block < W.heap.size := by obtain ⟨m, hm⟩ := h0; exact DataW.trod_lt m _ _ _ hm
  have lt2 : ∀ x ∈ p2, x.block < W.heap.size := by obtain ⟨m, hm⟩ := h2; exact DataW.trod_lt m _ _ _ hm
  obtain ⟨s0, w0⟩ := open_strs h0
  obtain ⟨s2, w2⟩ := open_strs h2
  clear hA0 hval0
  refine (walk a0 len0 cap0 s0 a1 a2 len2 cap2 s2 a3 W w0 w1 w2 w3).mono fun e W' ⟨he, bel⟩ => ?_
  subst he
  exact ⟨_, rfl, _, _, _, [], _, [], hW', trodAll_mk1 (shut_bool Try.underlying4 _), (trodAll_cons_mk (Below.trod laidOut (by kernel_rfl) (of_decide_eq_true (by kernel_rfl)) h0 bel lt0) (trodAll_cons_mk (shut_string Try.underlying9 w1) (trodAll_cons_mk (Below.trod laidOut (by kernel_rfl) (of_decide_eq_true (by kernel_rfl)) h2 bel lt2) (trodAll_cons_mk (shut_string Try.underlying9 w3) trodAll_mk0)))), rfl, bel.frame _, fun h => by cases h⟩

theorem over : Rows.fnThenKeepsSignatureRow.holds Try.pinned (OpenSpec.ofChange Rows.fnThenKeepsSignatureSpec) :=
  OpenClaim.holds_of_wide 4 Try.f4 rfl rfl rfl rfl rfl rfl rfl ⟨rfl, rfl, rfl, rfl, rfl⟩ rfl rfl rfl rfl rfl (by kernel_rfl) Try.func4 (by kernel_rfl)
    (of_decide_eq_true (by kernel_rfl)) (by unfold Func.isWrapper; first | (rw [if_pos (by decide +kernel)]; kernel_rfl) | (rw [if_neg (by decide +kernel)]; exact ⟨rfl, rfl⟩))
    (fun os started H enc _ => lifted os started H enc)

/-- THE STATEMENT -/
theorem proved : Rows.FnThenKeepsSignatureSaid := over
#print axioms proved
end Go.Proofs.Qxb6003697a.fnThenKeepsSignature
