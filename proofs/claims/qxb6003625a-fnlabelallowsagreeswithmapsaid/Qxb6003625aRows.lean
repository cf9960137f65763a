/-
  No cell of these rows narrows 'for every input' (looked for: loops, veiled, ifaces, maps, wideKeys, modest, calm, conditions, laid).
  DERIVED. THE GIVEN ROWS OF THIS SEAT. 4 by the template 'for every input the law returns true; each argument reads behind the call as it read before'; 0 by the template 'total and deterministic' (their statements: Qxb6003625aTotals.lean).
  GIVEN WITH THE SEED: the statements are not yours to turn. If you find one false, say at which input.
  Laid BY PROGRAM, IN A SANDBOX (cutbox-rows.mjs): the forced cells as the released guide's own fill.sh prints them over the translation f1dcda24b8e08248… (all of the seat's roots in one cut). By AI agents, Wed Nov 11 2026. No macro, syntax, notation, axiom, sorry.
-/
import Derived.Test.Qxb6003625aChecked
import GoSem.Claim
import GoSem.ClaimJoined
import GoSem.ClaimMapViews
import Derived.JoinedTies
import Derived.KernelRfl
namespace Go.Proofs.Qxb6003625a
/- THE CELL 'sum', in the pinned program and in every row, IS THE sha256 OF THE DUMP (.gsa) THAT Qxb6003625aProg.lean LOADS. Nothing in Lean hashes anything: it is a label: what it is worth is what the hold of that sum in a sandbox is worth. -/
noncomputable def Try.pinned : Pinned := { name := "qxb6003625a", sum := "f1dcda24b8e08248104bb9331f834138b2bea10871131b60e98e68783b49b416", checked := Try.checked }
namespace Rows
def none {H : Type} : Left H := { results := [], args := [] }

/-- 'zzlaws_root_b1.FnLabelAllowsByRights': WHATEVER THE INPUT: true; the input reads as it did. -/
def fnLabelAllowsByRightsSpec : ChangeSpec := { name := "fnLabelAllowsByRights", fn := fun _ => fun
  | [d1, d2, d3, d4, d5, d6, d7] => { results := [.lit (.bool true)], args := [d1, d2, d3, d4, d5, d6, d7] }
  | _ => none }
def fnLabelAllowsByRightsRow : OpenClaim := { program := "qxb6003625a", sum := "f1dcda24b8e08248104bb9331f834138b2bea10871131b60e98e68783b49b416", func := "example.com/acecheck/acecheck/zzlaws_root_b1.FnLabelAllowsByRights", spec := "fnLabelAllowsByRights", apart := false }
def FnLabelAllowsByRightsSaid : Prop := fnLabelAllowsByRightsRow.holds Try.pinned (OpenSpec.ofChange fnLabelAllowsByRightsSpec)

/-- ITS FALSE NEIGHBOUR: 'it returns false'. Refute it at one input. -/
def fnLabelAllowsByRightsWrong : ChangeSpec := { name := "fnLabelAllowsByRights", fn := fun _ => fun
  | [d1, d2, d3, d4, d5, d6, d7] => { results := [.lit (.bool false)], args := [d1, d2, d3, d4, d5, d6, d7] }
  | _ => none }
def FnLabelAllowsByRightsWrongFalsely : Prop := fnLabelAllowsByRightsRow.holds Try.pinned (OpenSpec.ofChange fnLabelAllowsByRightsWrong)

/-- 'zzlaws_root_b1.FnLabelAllowsAgreesWithMap': WHATEVER THE INPUT: true; the input reads as it did. -/
def fnLabelAllowsAgreesWithMapSpec : ChangeSpec := { name := "fnLabelAllowsAgreesWithMap", fn := fun _ => fun
  | [d1, d2, d3, d4, d5, d6] => { results := [.lit (.bool true)], args := [d1, d2, d3, d4, d5, d6] }
  | _ => none }
def fnLabelAllowsAgreesWithMapRow : OpenClaim := { program := "qxb6003625a", sum := "f1dcda24b8e08248104bb9331f834138b2bea10871131b60e98e68783b49b416", func := "example.com/acecheck/acecheck/zzlaws_root_b1.FnLabelAllowsAgreesWithMap", spec := "fnLabelAllowsAgreesWithMap", apart := false }
def FnLabelAllowsAgreesWithMapSaid : Prop := fnLabelAllowsAgreesWithMapRow.holds Try.pinned (OpenSpec.ofChange fnLabelAllowsAgreesWithMapSpec)

/-- ITS FALSE NEIGHBOUR: 'it returns false'. Refute it at one input. -/
def fnLabelAllowsAgreesWithMapWrong : ChangeSpec := { name := "fnLabelAllowsAgreesWithMap", fn := fun _ => fun
  | [d1, d2, d3, d4, d5, d6] => { results := [.lit (.bool false)], args := [d1, d2, d3, d4, d5, d6] }
  | _ => none }
def FnLabelAllowsAgreesWithMapWrongFalsely : Prop := fnLabelAllowsAgreesWithMapRow.holds Try.pinned (OpenSpec.ofChange fnLabelAllowsAgreesWithMapWrong)

/-- 'zzlaws_root_b1.FnAllowMatchesTreeModel': WHATEVER THE INPUT: true; the input reads as it did. -/
def fnAllowMatchesTreeModelSpec : ChangeSpec := { name := "fnAllowMatchesTreeModel", fn := fun _ => fun
  | [d1, d2, d3, d4, d5, d6] => { results := [.lit (.bool true)], args := [d1, d2, d3, d4, d5, d6] }
  | _ => none }
def fnAllowMatchesTreeModelRow : OpenClaim := { program := "qxb6003625a", sum := "f1dcda24b8e08248104bb9331f834138b2bea10871131b60e98e68783b49b416", func := "example.com/acecheck/acecheck/zzlaws_root_b1.FnAllowMatchesTreeModel", spec := "fnAllowMatchesTreeModel", apart := false }
def FnAllowMatchesTreeModelSaid : Prop := fnAllowMatchesTreeModelRow.holds Try.pinned (OpenSpec.ofChange fnAllowMatchesTreeModelSpec)

/-- ITS FALSE NEIGHBOUR: 'it returns false'. Refute it at one input. -/
def fnAllowMatchesTreeModelWrong : ChangeSpec := { name := "fnAllowMatchesTreeModel", fn := fun _ => fun
  | [d1, d2, d3, d4, d5, d6] => { results := [.lit (.bool false)], args := [d1, d2, d3, d4, d5, d6] }
  | _ => none }
def FnAllowMatchesTreeModelWrongFalsely : Prop := fnAllowMatchesTreeModelRow.holds Try.pinned (OpenSpec.ofChange fnAllowMatchesTreeModelWrong)

/-- 'zzlaws_root_b1.FnAllowIdempotentAndOnlyGrants': WHATEVER THE INPUT: true; the input reads as it did. -/
def fnAllowIdempotentAndOnlyGrantsSpec : ChangeSpec := { name := "fnAllowIdempotentAndOnlyGrants", fn := fun _ => fun
  | [d1, d2, d3, d4, d5, d6] => { results := [.lit (.bool true)], args := [d1, d2, d3, d4, d5, d6] }
  | _ => none }
def fnAllowIdempotentAndOnlyGrantsRow : OpenClaim := { program := "qxb6003625a", sum := "f1dcda24b8e08248104bb9331f834138b2bea10871131b60e98e68783b49b416", func := "example.com/acecheck/acecheck/zzlaws_root_b1.FnAllowIdempotentAndOnlyGrants", spec := "fnAllowIdempotentAndOnlyGrants", apart := false }
def FnAllowIdempotentAndOnlyGrantsSaid : Prop := fnAllowIdempotentAndOnlyGrantsRow.holds Try.pinned (OpenSpec.ofChange fnAllowIdempotentAndOnlyGrantsSpec)

/-- ITS FALSE NEIGHBOUR: 'it returns false'. Refute it at one input. -/
def fnAllowIdempotentAndOnlyGrantsWrong : ChangeSpec := { name := "fnAllowIdempotentAndOnlyGrants", fn := fun _ => fun
  | [d1, d2, d3, d4, d5, d6] => { results := [.lit (.bool false)], args := [d1, d2, d3, d4, d5, d6] }
  | _ => none }
def FnAllowIdempotentAndOnlyGrantsWrongFalsely : Prop := fnAllowIdempotentAndOnlyGrantsRow.holds Try.pinned (OpenSpec.ofChange fnAllowIdempotentAndOnlyGrantsWrong)

end Rows
end Go.Proofs.Qxb6003625a
