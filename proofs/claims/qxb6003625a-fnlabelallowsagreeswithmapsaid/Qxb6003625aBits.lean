import Derived.Test.Qxb6003625aPlain
namespace Go.Proofs.Qxb6003625a
set_option linter.unusedVariables false

/-! ### The bit laws: a value bit at place i, the tests at places 28 to 31 -/
set_option maxRecDepth 20000 in
set_option maxHeartbeats 2000000 in
theorem bitR (r w e a : Nat → Bool) (i : Nat) : (mapF r w e a (fun j => j == 31)) i = (imgRF r w e a) i := by
  simp only [mapF, imgRF, imgWF, imgEF, orIfF, stepF]
  by_cases h31 : i = 31
  · subst h31
    generalize r 28 = x0
    generalize r 29 = x1
    generalize r 30 = x2
    generalize w 28 = x3
    generalize w 29 = x4
    generalize e 28 = x5
    generalize r 31 = x6
    generalize w 31 = x7
    generalize e 31 = x8
    generalize a 31 = x9
    revert x0 x1 x2 x3 x4 x5 x6 x7 x8 x9
    decide
  by_cases h30 : i = 30
  · subst h30
    generalize r 28 = x0
    generalize r 29 = x1
    generalize r 30 = x2
    generalize w 28 = x3
    generalize w 29 = x4
    generalize e 28 = x5
    generalize w 30 = x6
    generalize e 30 = x7
    generalize a 30 = x8
    revert x0 x1 x2 x3 x4 x5 x6 x7 x8
    decide
  by_cases h29 : i = 29
  · subst h29
    generalize r 28 = x0
    generalize r 29 = x1
    generalize r 30 = x2
    generalize w 28 = x3
    generalize w 29 = x4
    generalize e 28 = x5
    generalize e 29 = x6
    generalize a 29 = x7
    revert x0 x1 x2 x3 x4 x5 x6 x7
    decide
  by_cases h28 : i = 28
  · subst h28
    generalize r 28 = x0
    generalize r 29 = x1
    generalize r 30 = x2
    generalize w 28 = x3
    generalize w 29 = x4
    generalize e 28 = x5
    generalize a 28 = x6
    revert x0 x1 x2 x3 x4 x5 x6
    decide
  · simp only [beq_eq_false_iff_ne.2 h31, beq_eq_false_iff_ne.2 h30, beq_eq_false_iff_ne.2 h29, beq_eq_false_iff_ne.2 h28]
    generalize r 28 = x0
    generalize r 29 = x1
    generalize r 30 = x2
    generalize w 28 = x3
    generalize w 29 = x4
    generalize e 28 = x5
    generalize r i = x6
    generalize w i = x7
    generalize e i = x8
    generalize a i = x9
    revert x0 x1 x2 x3 x4 x5 x6 x7 x8 x9
    decide
set_option maxRecDepth 20000 in
set_option maxHeartbeats 2000000 in
theorem bitW (r w e a : Nat → Bool) (i : Nat) : (mapF r w e a (fun j => j == 30)) i = (imgWF w e a) i := by
  simp only [mapF, imgWF, imgEF, orIfF, stepF]
  by_cases h31 : i = 31
  · subst h31
    generalize r 28 = x0
    generalize r 29 = x1
    generalize r 30 = x2
    generalize w 28 = x3
    generalize w 29 = x4
    generalize e 28 = x5
    generalize r 31 = x6
    generalize w 31 = x7
    generalize e 31 = x8
    generalize a 31 = x9
    revert x0 x1 x2 x3 x4 x5 x6 x7 x8 x9
    decide
  by_cases h30 : i = 30
  · subst h30
    generalize r 28 = x0
    generalize r 29 = x1
    generalize r 30 = x2
    generalize w 28 = x3
    generalize w 29 = x4
    generalize e 28 = x5
    generalize w 30 = x6
    generalize e 30 = x7
    generalize a 30 = x8
    revert x0 x1 x2 x3 x4 x5 x6 x7 x8
    decide
  by_cases h29 : i = 29
  · subst h29
    generalize r 28 = x0
    generalize r 29 = x1
    generalize r 30 = x2
    generalize w 28 = x3
    generalize w 29 = x4
    generalize e 28 = x5
    generalize e 29 = x6
    generalize a 29 = x7
    revert x0 x1 x2 x3 x4 x5 x6 x7
    decide
  by_cases h28 : i = 28
  · subst h28
    generalize r 28 = x0
    generalize r 29 = x1
    generalize r 30 = x2
    generalize w 28 = x3
    generalize w 29 = x4
    generalize e 28 = x5
    generalize a 28 = x6
    revert x0 x1 x2 x3 x4 x5 x6
    decide
  · simp only [beq_eq_false_iff_ne.2 h31, beq_eq_false_iff_ne.2 h30, beq_eq_false_iff_ne.2 h29, beq_eq_false_iff_ne.2 h28]
    generalize r 28 = x0
    generalize r 29 = x1
    generalize r 30 = x2
    generalize w 28 = x3
    generalize w 29 = x4
    generalize e 28 = x5
    generalize r i = x6
    generalize w i = x7
    generalize e i = x8
    generalize a i = x9
    revert x0 x1 x2 x3 x4 x5 x6 x7 x8 x9
    decide
set_option maxRecDepth 20000 in
set_option maxHeartbeats 2000000 in
theorem bitE (r w e a : Nat → Bool) (i : Nat) : (mapF r w e a (fun j => j == 29)) i = (imgEF e a) i := by
  simp only [mapF, imgEF, orIfF, stepF]
  by_cases h31 : i = 31
  · subst h31
    generalize r 28 = x0
    generalize r 29 = x1
    generalize r 30 = x2
    generalize w 28 = x3
    generalize w 29 = x4
    generalize e 28 = x5
    generalize r 31 = x6
    generalize w 31 = x7
    generalize e 31 = x8
    generalize a 31 = x9
    revert x0 x1 x2 x3 x4 x5 x6 x7 x8 x9
    decide
  by_cases h30 : i = 30
  · subst h30
    generalize r 28 = x0
    generalize r 29 = x1
    generalize r 30 = x2
    generalize w 28 = x3
    generalize w 29 = x4
    generalize e 28 = x5
    generalize w 30 = x6
    generalize e 30 = x7
    generalize a 30 = x8
    revert x0 x1 x2 x3 x4 x5 x6 x7 x8
    decide
  by_cases h29 : i = 29
  · subst h29
    generalize r 28 = x0
    generalize r 29 = x1
    generalize r 30 = x2
    generalize w 28 = x3
    generalize w 29 = x4
    generalize e 28 = x5
    generalize e 29 = x6
    generalize a 29 = x7
    revert x0 x1 x2 x3 x4 x5 x6 x7
    decide
  by_cases h28 : i = 28
  · subst h28
    generalize r 28 = x0
    generalize r 29 = x1
    generalize r 30 = x2
    generalize w 28 = x3
    generalize w 29 = x4
    generalize e 28 = x5
    generalize a 28 = x6
    revert x0 x1 x2 x3 x4 x5 x6
    decide
  · simp only [beq_eq_false_iff_ne.2 h31, beq_eq_false_iff_ne.2 h30, beq_eq_false_iff_ne.2 h29, beq_eq_false_iff_ne.2 h28]
    generalize r 28 = x0
    generalize r 29 = x1
    generalize r 30 = x2
    generalize w 28 = x3
    generalize w 29 = x4
    generalize e 28 = x5
    generalize r i = x6
    generalize w i = x7
    generalize e i = x8
    generalize a i = x9
    revert x0 x1 x2 x3 x4 x5 x6 x7 x8 x9
    decide
set_option maxRecDepth 20000 in
set_option maxHeartbeats 2000000 in
theorem bitAll (r w e a : Nat → Bool) (i : Nat) : (mapF r w e a (fun j => j == 31 || j == 30 || j == 29)) i = ((fun j => imgRF r w e a j || imgWF w e a j || imgEF e a j)) i := by
  simp only [mapF, imgRF, imgWF, imgEF, orIfF, stepF]
  by_cases h31 : i = 31
  · subst h31
    generalize r 28 = x0
    generalize r 29 = x1
    generalize r 30 = x2
    generalize w 28 = x3
    generalize w 29 = x4
    generalize e 28 = x5
    generalize r 31 = x6
    generalize w 31 = x7
    generalize e 31 = x8
    generalize a 31 = x9
    revert x0 x1 x2 x3 x4 x5 x6 x7 x8 x9
    decide
  by_cases h30 : i = 30
  · subst h30
    generalize r 28 = x0
    generalize r 29 = x1
    generalize r 30 = x2
    generalize w 28 = x3
    generalize w 29 = x4
    generalize e 28 = x5
    generalize w 30 = x6
    generalize e 30 = x7
    generalize a 30 = x8
    revert x0 x1 x2 x3 x4 x5 x6 x7 x8
    decide
  by_cases h29 : i = 29
  · subst h29
    generalize r 28 = x0
    generalize r 29 = x1
    generalize r 30 = x2
    generalize w 28 = x3
    generalize w 29 = x4
    generalize e 28 = x5
    generalize e 29 = x6
    generalize a 29 = x7
    revert x0 x1 x2 x3 x4 x5 x6 x7
    decide
  by_cases h28 : i = 28
  · subst h28
    generalize r 28 = x0
    generalize r 29 = x1
    generalize r 30 = x2
    generalize w 28 = x3
    generalize w 29 = x4
    generalize e 28 = x5
    generalize a 28 = x6
    revert x0 x1 x2 x3 x4 x5 x6
    decide
  · simp only [beq_eq_false_iff_ne.2 h31, beq_eq_false_iff_ne.2 h30, beq_eq_false_iff_ne.2 h29, beq_eq_false_iff_ne.2 h28]
    generalize r 28 = x0
    generalize r 29 = x1
    generalize r 30 = x2
    generalize w 28 = x3
    generalize w 29 = x4
    generalize e 28 = x5
    generalize r i = x6
    generalize w i = x7
    generalize e i = x8
    generalize a i = x9
    revert x0 x1 x2 x3 x4 x5 x6 x7 x8 x9
    decide
set_option maxRecDepth 20000 in
set_option maxHeartbeats 2000000 in
theorem bitRE (r w e a : Nat → Bool) (i : Nat) : (mapF r w e a (fun j => j == 31 || j == 29)) i = ((fun j => imgRF r w e a j || imgEF e a j)) i := by
  simp only [mapF, imgRF, imgWF, imgEF, orIfF, stepF]
  by_cases h31 : i = 31
  · subst h31
    generalize r 28 = x0
    generalize r 29 = x1
    generalize r 30 = x2
    generalize w 28 = x3
    generalize w 29 = x4
    generalize e 28 = x5
    generalize r 31 = x6
    generalize w 31 = x7
    generalize e 31 = x8
    generalize a 31 = x9
    revert x0 x1 x2 x3 x4 x5 x6 x7 x8 x9
    decide
  by_cases h30 : i = 30
  · subst h30
    generalize r 28 = x0
    generalize r 29 = x1
    generalize r 30 = x2
    generalize w 28 = x3
    generalize w 29 = x4
    generalize e 28 = x5
    generalize w 30 = x6
    generalize e 30 = x7
    generalize a 30 = x8
    revert x0 x1 x2 x3 x4 x5 x6 x7 x8
    decide
  by_cases h29 : i = 29
  · subst h29
    generalize r 28 = x0
    generalize r 29 = x1
    generalize r 30 = x2
    generalize w 28 = x3
    generalize w 29 = x4
    generalize e 28 = x5
    generalize e 29 = x6
    generalize a 29 = x7
    revert x0 x1 x2 x3 x4 x5 x6 x7
    decide
  by_cases h28 : i = 28
  · subst h28
    generalize r 28 = x0
    generalize r 29 = x1
    generalize r 30 = x2
    generalize w 28 = x3
    generalize w 29 = x4
    generalize e 28 = x5
    generalize a 28 = x6
    revert x0 x1 x2 x3 x4 x5 x6
    decide
  · simp only [beq_eq_false_iff_ne.2 h31, beq_eq_false_iff_ne.2 h30, beq_eq_false_iff_ne.2 h29, beq_eq_false_iff_ne.2 h28]
    generalize r 28 = x0
    generalize r 29 = x1
    generalize r 30 = x2
    generalize w 28 = x3
    generalize w 29 = x4
    generalize e 28 = x5
    generalize r i = x6
    generalize w i = x7
    generalize e i = x8
    generalize a i = x9
    revert x0 x1 x2 x3 x4 x5 x6 x7 x8 x9
    decide
end Go.Proofs.Qxb6003625a
