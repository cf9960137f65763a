/-
  No cell of these rows narrows 'for every input' (looked for: loops, veiled, ifaces, maps, wideKeys, modest, calm, conditions, laid).
  DERIVED. THE GIVEN ROWS OF THIS SEAT. 3 by the template 'for every input the law returns true; each argument reads behind the call as it read before'; 0 by the template 'total and deterministic' (their statements: Qxb6606442aTotals.lean).
  GIVEN WITH THE SEED: the statements are not yours to turn. If you find one false, say at which input.
  Laid BY PROGRAM, IN A SANDBOX (cutbox-rows.mjs): the forced cells as the released guide's own fill.sh prints them over the translation 20f049b232af67ee… (all of the seat's roots in one cut). By AI agents, Wed Nov 11 2026. No macro, syntax, notation, axiom, sorry.
-/
import Derived.Test.Qxb6606442aChecked
import GoSem.Claim
import GoSem.ClaimJoined
import GoSem.ClaimMapViews
import Derived.JoinedTies
import Derived.KernelRfl
namespace Go.Proofs.Qxb6606442a
/- THE CELL 'sum', in the pinned program and in every row, IS THE sha256 OF THE DUMP (.gsa) THAT Qxb6606442aProg.lean LOADS. Nothing in Lean hashes anything: it is a label: what it is worth is what the hold of that sum in a sandbox is worth. -/
noncomputable def Try.pinned : Pinned := { name := "qxb6606442a", sum := "20f049b232af67eeeb62300516803e4e09db6cfc11c7d5e8f0d35d05b8506700", checked := Try.checked }
namespace Rows
def none {H : Type} : Left H := { results := [], args := [] }

/-- 'zzlaws_internal_httpserve_b1.FnAllMatchesHistogram': WHATEVER THE INPUT: true; the input reads as it did. -/
def fnAllMatchesHistogramSpec : ChangeSpec := { name := "fnAllMatchesHistogram", fn := fun _ => fun
  | [d1, d2] => { results := [.lit (.bool true)], args := [d1, d2] }
  | _ => none }
def fnAllMatchesHistogramRow : OpenClaim := { program := "qxb6606442a", sum := "20f049b232af67eeeb62300516803e4e09db6cfc11c7d5e8f0d35d05b8506700", func := "example.com/ingolstadt/ingolstadt/zzlaws_internal_httpserve_b1.FnAllMatchesHistogram", spec := "fnAllMatchesHistogram", apart := false }
def FnAllMatchesHistogramSaid : Prop := fnAllMatchesHistogramRow.holds Try.pinned (OpenSpec.ofChange fnAllMatchesHistogramSpec)

/-- ITS FALSE NEIGHBOUR: 'it returns false'. Refute it at one input. -/
def fnAllMatchesHistogramWrong : ChangeSpec := { name := "fnAllMatchesHistogram", fn := fun _ => fun
  | [d1, d2] => { results := [.lit (.bool false)], args := [d1, d2] }
  | _ => none }
def FnAllMatchesHistogramWrongFalsely : Prop := fnAllMatchesHistogramRow.holds Try.pinned (OpenSpec.ofChange fnAllMatchesHistogramWrong)

/-- 'zzlaws_internal_httpserve_b1.FnAllSplitsOverConcatenation': WHATEVER THE INPUT: true; the input reads as it did. -/
def fnAllSplitsOverConcatenationSpec : ChangeSpec := { name := "fnAllSplitsOverConcatenation", fn := fun _ => fun
  | [d1, d2, d3] => { results := [.lit (.bool true)], args := [d1, d2, d3] }
  | _ => none }
def fnAllSplitsOverConcatenationRow : OpenClaim := { program := "qxb6606442a", sum := "20f049b232af67eeeb62300516803e4e09db6cfc11c7d5e8f0d35d05b8506700", func := "example.com/ingolstadt/ingolstadt/zzlaws_internal_httpserve_b1.FnAllSplitsOverConcatenation", spec := "fnAllSplitsOverConcatenation", apart := false }
def FnAllSplitsOverConcatenationSaid : Prop := fnAllSplitsOverConcatenationRow.holds Try.pinned (OpenSpec.ofChange fnAllSplitsOverConcatenationSpec)

/-- ITS FALSE NEIGHBOUR: 'it returns false'. Refute it at one input. -/
def fnAllSplitsOverConcatenationWrong : ChangeSpec := { name := "fnAllSplitsOverConcatenation", fn := fun _ => fun
  | [d1, d2, d3] => { results := [.lit (.bool false)], args := [d1, d2, d3] }
  | _ => none }
def FnAllSplitsOverConcatenationWrongFalsely : Prop := fnAllSplitsOverConcatenationRow.holds Try.pinned (OpenSpec.ofChange fnAllSplitsOverConcatenationWrong)

/-- 'zzlaws_internal_httpserve_b1.FnAllRespectsIntersectionUnionComplement': WHATEVER THE INPUT: true; the input reads as it did. -/
def fnAllRespectsIntersectionUnionComplementSpec : ChangeSpec := { name := "fnAllRespectsIntersectionUnionComplement", fn := fun _ => fun
  | [d1, d2, d3] => { results := [.lit (.bool true)], args := [d1, d2, d3] }
  | _ => none }
def fnAllRespectsIntersectionUnionComplementRow : OpenClaim := { program := "qxb6606442a", sum := "20f049b232af67eeeb62300516803e4e09db6cfc11c7d5e8f0d35d05b8506700", func := "example.com/ingolstadt/ingolstadt/zzlaws_internal_httpserve_b1.FnAllRespectsIntersectionUnionComplement", spec := "fnAllRespectsIntersectionUnionComplement", apart := false }
def FnAllRespectsIntersectionUnionComplementSaid : Prop := fnAllRespectsIntersectionUnionComplementRow.holds Try.pinned (OpenSpec.ofChange fnAllRespectsIntersectionUnionComplementSpec)

/-- ITS FALSE NEIGHBOUR: 'it returns false'. Refute it at one input. -/
def fnAllRespectsIntersectionUnionComplementWrong : ChangeSpec := { name := "fnAllRespectsIntersectionUnionComplement", fn := fun _ => fun
  | [d1, d2, d3] => { results := [.lit (.bool false)], args := [d1, d2, d3] }
  | _ => none }
def FnAllRespectsIntersectionUnionComplementWrongFalsely : Prop := fnAllRespectsIntersectionUnionComplementRow.holds Try.pinned (OpenSpec.ofChange fnAllRespectsIntersectionUnionComplementWrong)

end Rows
end Go.Proofs.Qxb6606442a
