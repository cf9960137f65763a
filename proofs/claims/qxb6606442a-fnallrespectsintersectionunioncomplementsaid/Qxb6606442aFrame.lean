import Derived.Test.Qxb6606442aHist
namespace Go.Proofs.Qxb6606442a
open Go.ChangeShapes Go.WideShapes Go.ChangeAt Go.RowKit
set_option linter.unusedVariables false

theorem own : ownKnob Try.prog.godebug = none := by kernel_rfl
theorem laidOut : laidOutB Try.prog = true := by kernel_rfl
theorem Try.cells22 : Try.prog.cellsOf 22 = 256 := by kernel_rfl
theorem Try.cellTypes22 : Try.prog.cellTypes Try.prog.depth 22 = some (List.replicate 256 4) := by kernel_rfl

/-- A '[256]bool' that came in by value. -/
def IsClass (v : Value) (xs : Array Value) (c : Nat → Bool) : Prop := v = .agg xs ∧ xs.size = 256 ∧ ∀ i, i < 256 → xs[i]? = some (.bool (c i))

theorem open_class {W : World} {base : Nat} {v : Value} (hv : Value.okWide Try.prog W .any base 22 v) : ∃ xs c, IsClass v xs c := by
  simp only [Value.okWide, Try.underlying22] at hv
  obtain ⟨cs, rfl, hs, ts, ht, _, hc⟩ := hv
  rw [Try.cells22] at hs
  rw [Try.cellTypes22] at ht
  obtain rfl := Option.some.inj ht
  refine ⟨cs, fun i => match cs[i]? with | some (.bool b) => b | _ => false, rfl, hs, fun i hi => ?_⟩
  have hget : cs[i]? = some cs[i] := Array.getElem?_eq_getElem (by omega)
  obtain ⟨u, hu, hk⟩ := hc i cs[i] hget
  have hu4 : u = 4 := by
    have := List.eq_of_mem_replicate (List.mem_of_getElem? hu)
    exact this
  subst hu4
  obtain ⟨b, hb⟩ := okWide_bool (P := Try.prog) (w := W) (r := .any) (base := base) (t := 4) (v := cs[i]) Try.underlying4 (by simpa only [Value.okWide, Try.underlying4] using hk)
  simp [hget, hb]

/-- What the walk is told of a '[]byte' that came in. -/
def IsBytes (w : World) (a : Option Addr) (len cap : Nat) (zs : List Int) : Prop :=
  zs.length = len ∧ len ≤ maxLen ∧ (a = none → zs = [] ∧ cap = 0) ∧ Row w a zs ∧ Bytes zs

theorem add_at (b off i : Nat) : (⟨b, off, none⟩ : Addr).add i = ⟨b, off + i, none⟩ := by unfold Addr.add; split <;> simp_all

theorem open_bytes {H : Type} {enc : TypeId × Value → H} {W : World} {a0 : Option Addr} {len0 cap0 : Nat} {d0 : DataW H} {p0 : List MemPlace}
    (h0 : DataW.Trod enc Try.prog W 0 (fun _ => true) true 23 (.slice a0 len0 cap0) d0 p0) : ∃ zs, IsBytes W a0 len0 cap0 zs := by
  obtain ⟨fuel, hf⟩ := h0
  rcases open_ints Try.underlying23 Try.underlying5 (by kernel_rfl) hf with ⟨hcs, _⟩ | ⟨x, l, c, zs, hcs, _, hl, hm, hz, _, hcell, hwz⟩
  · simp [Value.cells] at hcs
    obtain ⟨rfl, rfl, rfl⟩ := hcs
    exact ⟨[], rfl, Nat.zero_le _, fun _ => ⟨rfl, rfl⟩, Or.inl rfl, fun i => by simp⟩
  · simp [Value.cells] at hcs
    obtain ⟨rfl, rfl, rfl⟩ := hcs
    have hz' : zs.length = cap0 := by simpa using hz
    have hlen : (zs.take len0).length = len0 := by rw [List.length_take]; omega
    have hget : ∀ i, i < len0 → (zs.take len0).getD i 0 = zs.getD i 0 := fun i hi => by
      simp only [List.getD_eq_getElem?_getD, List.getElem?_take, if_pos hi]
    refine ⟨zs.take len0, hlen, Nat.le_trans hl hm, fun h => absurd h (by simp), ?_, fun i => ?_⟩
    · by_cases he : len0 = 0
      · exact Or.inl (by rw [he]; rfl)
      · obtain ⟨b, off, spot⟩ := x
        have hspot : spot = none := by simpa [Addr.add] using World.cell?_spot (hcell 0 (by omega))
        subst hspot
        refine Or.inr ⟨b, off, rfl, fun i hi => ?_⟩
        rw [hlen] at hi
        rw [hget i hi]
        rw [← add_at]
        exact hcell i (by omega)
    · by_cases hi : i < len0
      · rw [hget i hi]
        have hm' : zs.getD i 0 ∈ zs := by
          simp only [List.getD_eq_getElem?_getD, List.getElem?_eq_getElem (show i < zs.length by omega), Option.getD_some]
          exact List.getElem_mem _
        have := hwz _ hm'
        simp only [List.getD_eq_getElem?_getD] at this ⊢
        simp [Lit.wf, IntKind.min, IntKind.max, IntKind.signed, IntKind.bits] at this
        omega
      · have : (zs.take len0).getD i 0 = 0 := by
          simp only [List.getD_eq_getElem?_getD, List.getElem?_take, if_neg hi, Option.getD_none]
        rw [this]; omega
end Go.Proofs.Qxb6606442a
