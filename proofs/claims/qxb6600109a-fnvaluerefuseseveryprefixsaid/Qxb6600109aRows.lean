/-
  No cell of these rows narrows 'for every input' (looked for: loops, veiled, ifaces, maps, wideKeys, modest, calm, conditions, laid).
  DERIVED. THE GIVEN ROWS OF THIS SEAT. 8 by the template 'for every input the law returns true; each argument reads behind the call as it read before'; 0 by the template 'total and deterministic' (their statements: Qxb6600109aTotals.lean).
  GIVEN WITH THE SEED: the statements are not yours to turn. If you find one false, say at which input.
  Laid BY PROGRAM, IN A SANDBOX (cutbox-rows.mjs): the forced cells as the released guide's own fill.sh prints them over the translation 6440dc37b97c1752… (all of the seat's roots in one cut). By AI agents, Wed Nov 11 2026. No macro, syntax, notation, axiom, sorry.
-/
import Derived.Test.Qxb6600109aChecked
import GoSem.Claim
import GoSem.ClaimJoined
import GoSem.ClaimMapViews
import Derived.JoinedTies
import Derived.KernelRfl
namespace Go.Proofs.Qxb6600109a
/- THE CELL 'sum', in the pinned program and in every row, IS THE sha256 OF THE DUMP (.gsa) THAT Qxb6600109aProg.lean LOADS. Nothing in Lean hashes anything: it is a label: what it is worth is what the hold of that sum in a sandbox is worth. -/
noncomputable def Try.pinned : Pinned := { name := "qxb6600109a", sum := "6440dc37b97c1752fe199a2d0fff49a2e7db40d9b30bf27bb9ad2f121f3afed7", checked := Try.checked }
namespace Rows
def none {H : Type} : Left H := { results := [], args := [] }

/-- 'zzlaws_internal_jsonread_b1.FnNumberMatchesAutomaton': WHATEVER THE INPUT: true; the input reads as it did. -/
def fnNumberMatchesAutomatonSpec : ChangeSpec := { name := "fnNumberMatchesAutomaton", fn := fun _ => fun
  | [d1, d2] => { results := [.lit (.bool true)], args := [d1, d2] }
  | _ => none }
def fnNumberMatchesAutomatonRow : OpenClaim := { program := "qxb6600109a", sum := "6440dc37b97c1752fe199a2d0fff49a2e7db40d9b30bf27bb9ad2f121f3afed7", func := "example.com/tierline/tierline/zzlaws_internal_jsonread_b1.FnNumberMatchesAutomaton", spec := "fnNumberMatchesAutomaton", apart := false }
def FnNumberMatchesAutomatonSaid : Prop := fnNumberMatchesAutomatonRow.holds Try.pinned (OpenSpec.ofChange fnNumberMatchesAutomatonSpec)

/-- ITS FALSE NEIGHBOUR: 'it returns false'. Refute it at one input. -/
def fnNumberMatchesAutomatonWrong : ChangeSpec := { name := "fnNumberMatchesAutomaton", fn := fun _ => fun
  | [d1, d2] => { results := [.lit (.bool false)], args := [d1, d2] }
  | _ => none }
def FnNumberMatchesAutomatonWrongFalsely : Prop := fnNumberMatchesAutomatonRow.holds Try.pinned (OpenSpec.ofChange fnNumberMatchesAutomatonWrong)

/-- 'zzlaws_internal_jsonread_b1.FnNumberTokenDelimited': WHATEVER THE INPUT: true; the input reads as it did. -/
def fnNumberTokenDelimitedSpec : ChangeSpec := { name := "fnNumberTokenDelimited", fn := fun _ => fun
  | [d1, d2, d3] => { results := [.lit (.bool true)], args := [d1, d2, d3] }
  | _ => none }
def fnNumberTokenDelimitedRow : OpenClaim := { program := "qxb6600109a", sum := "6440dc37b97c1752fe199a2d0fff49a2e7db40d9b30bf27bb9ad2f121f3afed7", func := "example.com/tierline/tierline/zzlaws_internal_jsonread_b1.FnNumberTokenDelimited", spec := "fnNumberTokenDelimited", apart := false }
def FnNumberTokenDelimitedSaid : Prop := fnNumberTokenDelimitedRow.holds Try.pinned (OpenSpec.ofChange fnNumberTokenDelimitedSpec)

/-- ITS FALSE NEIGHBOUR: 'it returns false'. Refute it at one input. -/
def fnNumberTokenDelimitedWrong : ChangeSpec := { name := "fnNumberTokenDelimited", fn := fun _ => fun
  | [d1, d2, d3] => { results := [.lit (.bool false)], args := [d1, d2, d3] }
  | _ => none }
def FnNumberTokenDelimitedWrongFalsely : Prop := fnNumberTokenDelimitedRow.holds Try.pinned (OpenSpec.ofChange fnNumberTokenDelimitedWrong)

/-- 'zzlaws_internal_jsonread_b1.FnStrReadsEncodedBody': WHATEVER THE INPUT: true; the input reads as it did. -/
def fnStrReadsEncodedBodySpec : ChangeSpec := { name := "fnStrReadsEncodedBody", fn := fun _ => fun
  | [d1, d2, d3] => { results := [.lit (.bool true)], args := [d1, d2, d3] }
  | _ => none }
def fnStrReadsEncodedBodyRow : OpenClaim := { program := "qxb6600109a", sum := "6440dc37b97c1752fe199a2d0fff49a2e7db40d9b30bf27bb9ad2f121f3afed7", func := "example.com/tierline/tierline/zzlaws_internal_jsonread_b1.FnStrReadsEncodedBody", spec := "fnStrReadsEncodedBody", apart := false }
def FnStrReadsEncodedBodySaid : Prop := fnStrReadsEncodedBodyRow.holds Try.pinned (OpenSpec.ofChange fnStrReadsEncodedBodySpec)

/-- ITS FALSE NEIGHBOUR: 'it returns false'. Refute it at one input. -/
def fnStrReadsEncodedBodyWrong : ChangeSpec := { name := "fnStrReadsEncodedBody", fn := fun _ => fun
  | [d1, d2, d3] => { results := [.lit (.bool false)], args := [d1, d2, d3] }
  | _ => none }
def FnStrReadsEncodedBodyWrongFalsely : Prop := fnStrReadsEncodedBodyRow.holds Try.pinned (OpenSpec.ofChange fnStrReadsEncodedBodyWrong)

/-- 'zzlaws_internal_jsonread_b1.FnStrResultShape': WHATEVER THE INPUT: true; the input reads as it did. -/
def fnStrResultShapeSpec : ChangeSpec := { name := "fnStrResultShape", fn := fun _ => fun
  | [d1, d2] => { results := [.lit (.bool true)], args := [d1, d2] }
  | _ => none }
def fnStrResultShapeRow : OpenClaim := { program := "qxb6600109a", sum := "6440dc37b97c1752fe199a2d0fff49a2e7db40d9b30bf27bb9ad2f121f3afed7", func := "example.com/tierline/tierline/zzlaws_internal_jsonread_b1.FnStrResultShape", spec := "fnStrResultShape", apart := false }
def FnStrResultShapeSaid : Prop := fnStrResultShapeRow.holds Try.pinned (OpenSpec.ofChange fnStrResultShapeSpec)

/-- ITS FALSE NEIGHBOUR: 'it returns false'. Refute it at one input. -/
def fnStrResultShapeWrong : ChangeSpec := { name := "fnStrResultShape", fn := fun _ => fun
  | [d1, d2] => { results := [.lit (.bool false)], args := [d1, d2] }
  | _ => none }
def FnStrResultShapeWrongFalsely : Prop := fnStrResultShapeRow.holds Try.pinned (OpenSpec.ofChange fnStrResultShapeWrong)

/-- 'zzlaws_internal_jsonread_b1.FnStrRefusesBrokenText': WHATEVER THE INPUT: true; the input reads as it did. -/
def fnStrRefusesBrokenTextSpec : ChangeSpec := { name := "fnStrRefusesBrokenText", fn := fun _ => fun
  | [d1, d2, d3, d4] => { results := [.lit (.bool true)], args := [d1, d2, d3, d4] }
  | _ => none }
def fnStrRefusesBrokenTextRow : OpenClaim := { program := "qxb6600109a", sum := "6440dc37b97c1752fe199a2d0fff49a2e7db40d9b30bf27bb9ad2f121f3afed7", func := "example.com/tierline/tierline/zzlaws_internal_jsonread_b1.FnStrRefusesBrokenText", spec := "fnStrRefusesBrokenText", apart := false }
def FnStrRefusesBrokenTextSaid : Prop := fnStrRefusesBrokenTextRow.holds Try.pinned (OpenSpec.ofChange fnStrRefusesBrokenTextSpec)

/-- ITS FALSE NEIGHBOUR: 'it returns false'. Refute it at one input. -/
def fnStrRefusesBrokenTextWrong : ChangeSpec := { name := "fnStrRefusesBrokenText", fn := fun _ => fun
  | [d1, d2, d3, d4] => { results := [.lit (.bool false)], args := [d1, d2, d3, d4] }
  | _ => none }
def FnStrRefusesBrokenTextWrongFalsely : Prop := fnStrRefusesBrokenTextRow.holds Try.pinned (OpenSpec.ofChange fnStrRefusesBrokenTextWrong)

/-- 'zzlaws_internal_jsonread_b1.FnValueReadsBuiltText': WHATEVER THE INPUT: true; the input reads as it did. -/
def fnValueReadsBuiltTextSpec : ChangeSpec := { name := "fnValueReadsBuiltText", fn := fun _ => fun
  | [d1, d2, d3] => { results := [.lit (.bool true)], args := [d1, d2, d3] }
  | _ => none }
def fnValueReadsBuiltTextRow : OpenClaim := { program := "qxb6600109a", sum := "6440dc37b97c1752fe199a2d0fff49a2e7db40d9b30bf27bb9ad2f121f3afed7", func := "example.com/tierline/tierline/zzlaws_internal_jsonread_b1.FnValueReadsBuiltText", spec := "fnValueReadsBuiltText", recurses := true, apart := false }
def FnValueReadsBuiltTextSaid : Prop := fnValueReadsBuiltTextRow.holds Try.pinned (OpenSpec.ofChange fnValueReadsBuiltTextSpec)

/-- ITS FALSE NEIGHBOUR: 'it returns false'. Refute it at one input. -/
def fnValueReadsBuiltTextWrong : ChangeSpec := { name := "fnValueReadsBuiltText", fn := fun _ => fun
  | [d1, d2, d3] => { results := [.lit (.bool false)], args := [d1, d2, d3] }
  | _ => none }
def FnValueReadsBuiltTextWrongFalsely : Prop := fnValueReadsBuiltTextRow.holds Try.pinned (OpenSpec.ofChange fnValueReadsBuiltTextWrong)

/-- 'zzlaws_internal_jsonread_b1.FnValueResultShape': WHATEVER THE INPUT: true; the input reads as it did. -/
def fnValueResultShapeSpec : ChangeSpec := { name := "fnValueResultShape", fn := fun _ => fun
  | [d1, d2] => { results := [.lit (.bool true)], args := [d1, d2] }
  | _ => none }
def fnValueResultShapeRow : OpenClaim := { program := "qxb6600109a", sum := "6440dc37b97c1752fe199a2d0fff49a2e7db40d9b30bf27bb9ad2f121f3afed7", func := "example.com/tierline/tierline/zzlaws_internal_jsonread_b1.FnValueResultShape", spec := "fnValueResultShape", recurses := true, apart := false }
def FnValueResultShapeSaid : Prop := fnValueResultShapeRow.holds Try.pinned (OpenSpec.ofChange fnValueResultShapeSpec)

/-- ITS FALSE NEIGHBOUR: 'it returns false'. Refute it at one input. -/
def fnValueResultShapeWrong : ChangeSpec := { name := "fnValueResultShape", fn := fun _ => fun
  | [d1, d2] => { results := [.lit (.bool false)], args := [d1, d2] }
  | _ => none }
def FnValueResultShapeWrongFalsely : Prop := fnValueResultShapeRow.holds Try.pinned (OpenSpec.ofChange fnValueResultShapeWrong)

/-- 'zzlaws_internal_jsonread_b1.FnValueRefusesEveryPrefix': WHATEVER THE INPUT: true; the input reads as it did. -/
def fnValueRefusesEveryPrefixSpec : ChangeSpec := { name := "fnValueRefusesEveryPrefix", fn := fun _ => fun
  | [d1, d2] => { results := [.lit (.bool true)], args := [d1, d2] }
  | _ => none }
def fnValueRefusesEveryPrefixRow : OpenClaim := { program := "qxb6600109a", sum := "6440dc37b97c1752fe199a2d0fff49a2e7db40d9b30bf27bb9ad2f121f3afed7", func := "example.com/tierline/tierline/zzlaws_internal_jsonread_b1.FnValueRefusesEveryPrefix", spec := "fnValueRefusesEveryPrefix", recurses := true, apart := false }
def FnValueRefusesEveryPrefixSaid : Prop := fnValueRefusesEveryPrefixRow.holds Try.pinned (OpenSpec.ofChange fnValueRefusesEveryPrefixSpec)

/-- ITS FALSE NEIGHBOUR: 'it returns false'. Refute it at one input. -/
def fnValueRefusesEveryPrefixWrong : ChangeSpec := { name := "fnValueRefusesEveryPrefix", fn := fun _ => fun
  | [d1, d2] => { results := [.lit (.bool false)], args := [d1, d2] }
  | _ => none }
def FnValueRefusesEveryPrefixWrongFalsely : Prop := fnValueRefusesEveryPrefixRow.holds Try.pinned (OpenSpec.ofChange fnValueRefusesEveryPrefixWrong)

end Rows
end Go.Proofs.Qxb6600109a
