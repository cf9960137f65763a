/-
  No cell of these rows narrows 'for every input' (looked for: loops, veiled, ifaces, maps, wideKeys, modest, calm, conditions, laid).
  DERIVED. THE GIVEN ROWS OF THIS SEAT. 4 by the template 'for every input the law returns true; each argument reads behind the call as it read before'; 0 by the template 'total and deterministic' (their statements: Qxb6003697aTotals.lean).
  GIVEN WITH THE SEED: the statements are not yours to turn. If you find one false, say at which input.
  Laid BY PROGRAM, IN A SANDBOX (cutbox-rows.mjs): the forced cells as the released guide's own fill.sh prints them over the translation 1612d808d4e5e0c4… (all of the seat's roots in one cut). By AI agents, Wed Nov 11 2026. No macro, syntax, notation, axiom, sorry.
-/
import Derived.Test.Qxb6003697aChecked
import GoSem.Claim
import GoSem.ClaimJoined
import GoSem.ClaimMapViews
import Derived.JoinedTies
import Derived.KernelRfl
namespace Go.Proofs.Qxb6003697a
/- THE CELL 'sum', in the pinned program and in every row, IS THE sha256 OF THE DUMP (.gsa) THAT Qxb6003697aProg.lean LOADS. Nothing in Lean hashes anything: it is a label: what it is worth is what the hold of that sum in a sandbox is worth. -/
noncomputable def Try.pinned : Pinned := { name := "qxb6003697a", sum := "1612d808d4e5e0c4554076e5c4350856e1d225149248be11046fe8b0341aba62", checked := Try.checked }
namespace Rows
def none {H : Type} : Left H := { results := [], args := [] }

/-- 'zzlaws_internal_report_g1.FnThenAssociative': WHATEVER THE INPUT: true; the input reads as it did. -/
def fnThenAssociativeSpec : ChangeSpec := { name := "fnThenAssociative", fn := fun _ => fun
  | [d1, d2, d3, d4, d5, d6] => { results := [.lit (.bool true)], args := [d1, d2, d3, d4, d5, d6] }
  | _ => none }
def fnThenAssociativeRow : OpenClaim := { program := "qxb6003697a", sum := "1612d808d4e5e0c4554076e5c4350856e1d225149248be11046fe8b0341aba62", func := "example.com/phaseline/phaseline/zzlaws_internal_report_g1.FnThenAssociative", spec := "fnThenAssociative", apart := false }
def FnThenAssociativeSaid : Prop := fnThenAssociativeRow.holds Try.pinned (OpenSpec.ofChange fnThenAssociativeSpec)

/-- ITS FALSE NEIGHBOUR: 'it returns false'. Refute it at one input. -/
def fnThenAssociativeWrong : ChangeSpec := { name := "fnThenAssociative", fn := fun _ => fun
  | [d1, d2, d3, d4, d5, d6] => { results := [.lit (.bool false)], args := [d1, d2, d3, d4, d5, d6] }
  | _ => none }
def FnThenAssociativeWrongFalsely : Prop := fnThenAssociativeRow.holds Try.pinned (OpenSpec.ofChange fnThenAssociativeWrong)

/-- 'zzlaws_internal_report_g1.FnThenKeepsSignature': WHATEVER THE INPUT: true; the input reads as it did. -/
def fnThenKeepsSignatureSpec : ChangeSpec := { name := "fnThenKeepsSignature", fn := fun _ => fun
  | [d1, d2, d3, d4] => { results := [.lit (.bool true)], args := [d1, d2, d3, d4] }
  | _ => none }
def fnThenKeepsSignatureRow : OpenClaim := { program := "qxb6003697a", sum := "1612d808d4e5e0c4554076e5c4350856e1d225149248be11046fe8b0341aba62", func := "example.com/phaseline/phaseline/zzlaws_internal_report_g1.FnThenKeepsSignature", spec := "fnThenKeepsSignature", apart := false }
def FnThenKeepsSignatureSaid : Prop := fnThenKeepsSignatureRow.holds Try.pinned (OpenSpec.ofChange fnThenKeepsSignatureSpec)

/-- ITS FALSE NEIGHBOUR: 'it returns false'. Refute it at one input. -/
def fnThenKeepsSignatureWrong : ChangeSpec := { name := "fnThenKeepsSignature", fn := fun _ => fun
  | [d1, d2, d3, d4] => { results := [.lit (.bool false)], args := [d1, d2, d3, d4] }
  | _ => none }
def FnThenKeepsSignatureWrongFalsely : Prop := fnThenKeepsSignatureRow.holds Try.pinned (OpenSpec.ofChange fnThenKeepsSignatureWrong)

/-- 'zzlaws_internal_report_g1.FnEscapeDecodes': WHATEVER THE INPUT: true; the input reads as it did. -/
def fnEscapeDecodesSpec : ChangeSpec := { name := "fnEscapeDecodes", fn := fun _ => fun
  | [d1, d2, d3] => { results := [.lit (.bool true)], args := [d1, d2, d3] }
  | _ => none }
def fnEscapeDecodesRow : OpenClaim := { program := "qxb6003697a", sum := "1612d808d4e5e0c4554076e5c4350856e1d225149248be11046fe8b0341aba62", func := "example.com/phaseline/phaseline/zzlaws_internal_report_g1.FnEscapeDecodes", spec := "fnEscapeDecodes", apart := false }
def FnEscapeDecodesSaid : Prop := fnEscapeDecodesRow.holds Try.pinned (OpenSpec.ofChange fnEscapeDecodesSpec)

/-- ITS FALSE NEIGHBOUR: 'it returns false'. Refute it at one input. -/
def fnEscapeDecodesWrong : ChangeSpec := { name := "fnEscapeDecodes", fn := fun _ => fun
  | [d1, d2, d3] => { results := [.lit (.bool false)], args := [d1, d2, d3] }
  | _ => none }
def FnEscapeDecodesWrongFalsely : Prop := fnEscapeDecodesRow.holds Try.pinned (OpenSpec.ofChange fnEscapeDecodesWrong)

/-- 'zzlaws_internal_report_g1.FnPlainTextOverConcatenation': WHATEVER THE INPUT: true; the input reads as it did. -/
def fnPlainTextOverConcatenationSpec : ChangeSpec := { name := "fnPlainTextOverConcatenation", fn := fun _ => fun
  | [d1, d2] => { results := [.lit (.bool true)], args := [d1, d2] }
  | _ => none }
def fnPlainTextOverConcatenationRow : OpenClaim := { program := "qxb6003697a", sum := "1612d808d4e5e0c4554076e5c4350856e1d225149248be11046fe8b0341aba62", func := "example.com/phaseline/phaseline/zzlaws_internal_report_g1.FnPlainTextOverConcatenation", spec := "fnPlainTextOverConcatenation", apart := false }
def FnPlainTextOverConcatenationSaid : Prop := fnPlainTextOverConcatenationRow.holds Try.pinned (OpenSpec.ofChange fnPlainTextOverConcatenationSpec)

/-- ITS FALSE NEIGHBOUR: 'it returns false'. Refute it at one input. -/
def fnPlainTextOverConcatenationWrong : ChangeSpec := { name := "fnPlainTextOverConcatenation", fn := fun _ => fun
  | [d1, d2] => { results := [.lit (.bool false)], args := [d1, d2] }
  | _ => none }
def FnPlainTextOverConcatenationWrongFalsely : Prop := fnPlainTextOverConcatenationRow.holds Try.pinned (OpenSpec.ofChange fnPlainTextOverConcatenationWrong)

end Rows
end Go.Proofs.Qxb6003697a
