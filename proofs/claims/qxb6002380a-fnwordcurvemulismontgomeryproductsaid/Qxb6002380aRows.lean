/-
  No cell of these rows narrows 'for every input' (looked for: loops, veiled, ifaces, maps, wideKeys, modest, calm, conditions, laid).
  DERIVED. THE GIVEN ROWS OF THIS SEAT. 6 by the template 'for every input the law returns true; each argument reads behind the call as it read before'; 0 by the template 'total and deterministic' (their statements: Qxb6002380aTotals.lean).
  GIVEN WITH THE SEED: the statements are not yours to turn. If you find one false, say at which input.
  Laid BY PROGRAM, IN A SANDBOX (cutbox-rows.mjs): the forced cells as the released guide's own fill.sh prints them over the translation e3a689ed29f366f8… (all of the seat's roots in one cut). By AI agents, Wed Nov 11 2026. No macro, syntax, notation, axiom, sorry.
-/
import Derived.Test.Qxb6002380aChecked
import GoSem.Claim
import GoSem.ClaimJoined
import GoSem.ClaimMapViews
import Derived.JoinedTies
import Derived.KernelRfl
namespace Go.Proofs.Qxb6002380a
/- THE CELL 'sum', in the pinned program and in every row, IS THE sha256 OF THE DUMP (.gsa) THAT Qxb6002380aProg.lean LOADS. Nothing in Lean hashes anything: it is a label: what it is worth is what the hold of that sum in a sandbox is worth. -/
noncomputable def Try.pinned : Pinned := { name := "qxb6002380a", sum := "e3a689ed29f366f82426699d71e9121eaf46780dc29020f2966e8fc9ca6cb5eb", checked := Try.checked }
namespace Rows
def none {H : Type} : Left H := { results := [], args := [] }

/-- 'zzlaws_internal_der_g1.FnAppendTagDecodesBack': WHATEVER THE INPUT: true; the input reads as it did. -/
def fnAppendTagDecodesBackSpec : ChangeSpec := { name := "fnAppendTagDecodesBack", fn := fun _ => fun
  | [d1, d2, d3, d4] => { results := [.lit (.bool true)], args := [d1, d2, d3, d4] }
  | _ => none }
def fnAppendTagDecodesBackRow : OpenClaim := { program := "qxb6002380a", sum := "e3a689ed29f366f82426699d71e9121eaf46780dc29020f2966e8fc9ca6cb5eb", func := "example.com/keyshape/keyshape/zzlaws_internal_der_g1.FnAppendTagDecodesBack", spec := "fnAppendTagDecodesBack", apart := false }
def FnAppendTagDecodesBackSaid : Prop := fnAppendTagDecodesBackRow.holds Try.pinned (OpenSpec.ofChange fnAppendTagDecodesBackSpec)

/-- ITS FALSE NEIGHBOUR: 'it returns false'. Refute it at one input. -/
def fnAppendTagDecodesBackWrong : ChangeSpec := { name := "fnAppendTagDecodesBack", fn := fun _ => fun
  | [d1, d2, d3, d4] => { results := [.lit (.bool false)], args := [d1, d2, d3, d4] }
  | _ => none }
def FnAppendTagDecodesBackWrongFalsely : Prop := fnAppendTagDecodesBackRow.holds Try.pinned (OpenSpec.ofChange fnAppendTagDecodesBackWrong)

/-- 'zzlaws_internal_der_g1.FnAppendLengthDecodesBack': WHATEVER THE INPUT: true; the input reads as it did. -/
def fnAppendLengthDecodesBackSpec : ChangeSpec := { name := "fnAppendLengthDecodesBack", fn := fun _ => fun
  | [d1, d2] => { results := [.lit (.bool true)], args := [d1, d2] }
  | _ => none }
def fnAppendLengthDecodesBackRow : OpenClaim := { program := "qxb6002380a", sum := "e3a689ed29f366f82426699d71e9121eaf46780dc29020f2966e8fc9ca6cb5eb", func := "example.com/keyshape/keyshape/zzlaws_internal_der_g1.FnAppendLengthDecodesBack", spec := "fnAppendLengthDecodesBack", apart := false }
def FnAppendLengthDecodesBackSaid : Prop := fnAppendLengthDecodesBackRow.holds Try.pinned (OpenSpec.ofChange fnAppendLengthDecodesBackSpec)

/-- ITS FALSE NEIGHBOUR: 'it returns false'. Refute it at one input. -/
def fnAppendLengthDecodesBackWrong : ChangeSpec := { name := "fnAppendLengthDecodesBack", fn := fun _ => fun
  | [d1, d2] => { results := [.lit (.bool false)], args := [d1, d2] }
  | _ => none }
def FnAppendLengthDecodesBackWrongFalsely : Prop := fnAppendLengthDecodesBackRow.holds Try.pinned (OpenSpec.ofChange fnAppendLengthDecodesBackWrong)

/-- 'zzlaws_root_g2.FnXorShiftedFlipsShiftedBits': WHATEVER THE INPUT: true; the input reads as it did. -/
def fnXorShiftedFlipsShiftedBitsSpec : ChangeSpec := { name := "fnXorShiftedFlipsShiftedBits", fn := fun _ => fun
  | [d1, d2, d3] => { results := [.lit (.bool true)], args := [d1, d2, d3] }
  | _ => none }
def fnXorShiftedFlipsShiftedBitsRow : OpenClaim := { program := "qxb6002380a", sum := "e3a689ed29f366f82426699d71e9121eaf46780dc29020f2966e8fc9ca6cb5eb", func := "example.com/keyshape/keyshape/zzlaws_root_g2.FnXorShiftedFlipsShiftedBits", spec := "fnXorShiftedFlipsShiftedBits", apart := false }
def FnXorShiftedFlipsShiftedBitsSaid : Prop := fnXorShiftedFlipsShiftedBitsRow.holds Try.pinned (OpenSpec.ofChange fnXorShiftedFlipsShiftedBitsSpec)

/-- ITS FALSE NEIGHBOUR: 'it returns false'. Refute it at one input. -/
def fnXorShiftedFlipsShiftedBitsWrong : ChangeSpec := { name := "fnXorShiftedFlipsShiftedBits", fn := fun _ => fun
  | [d1, d2, d3] => { results := [.lit (.bool false)], args := [d1, d2, d3] }
  | _ => none }
def FnXorShiftedFlipsShiftedBitsWrongFalsely : Prop := fnXorShiftedFlipsShiftedBitsRow.holds Try.pinned (OpenSpec.ofChange fnXorShiftedFlipsShiftedBitsWrong)

/-- 'zzlaws_root_g2.FnStrengthBitsMonotoneAndBounded': WHATEVER THE INPUT: true; the input reads as it did. -/
def fnStrengthBitsMonotoneAndBoundedSpec : ChangeSpec := { name := "fnStrengthBitsMonotoneAndBounded", fn := fun _ => fun
  | [d1, d2] => { results := [.lit (.bool true)], args := [d1, d2] }
  | _ => none }
def fnStrengthBitsMonotoneAndBoundedRow : OpenClaim := { program := "qxb6002380a", sum := "e3a689ed29f366f82426699d71e9121eaf46780dc29020f2966e8fc9ca6cb5eb", func := "example.com/keyshape/keyshape/zzlaws_root_g2.FnStrengthBitsMonotoneAndBounded", spec := "fnStrengthBitsMonotoneAndBounded", apart := false }
def FnStrengthBitsMonotoneAndBoundedSaid : Prop := fnStrengthBitsMonotoneAndBoundedRow.holds Try.pinned (OpenSpec.ofChange fnStrengthBitsMonotoneAndBoundedSpec)

/-- ITS FALSE NEIGHBOUR: 'it returns false'. Refute it at one input. -/
def fnStrengthBitsMonotoneAndBoundedWrong : ChangeSpec := { name := "fnStrengthBitsMonotoneAndBounded", fn := fun _ => fun
  | [d1, d2] => { results := [.lit (.bool false)], args := [d1, d2] }
  | _ => none }
def FnStrengthBitsMonotoneAndBoundedWrongFalsely : Prop := fnStrengthBitsMonotoneAndBoundedRow.holds Try.pinned (OpenSpec.ofChange fnStrengthBitsMonotoneAndBoundedWrong)

/-- 'zzlaws_root_g2.FnWordAddIsModularSum': WHATEVER THE INPUT: true; the input reads as it did. -/
def fnWordAddIsModularSumSpec : ChangeSpec := { name := "fnWordAddIsModularSum", fn := fun _ => fun
  | [d1, d2, d3] => { results := [.lit (.bool true)], args := [d1, d2, d3] }
  | _ => none }
def fnWordAddIsModularSumRow : OpenClaim := { program := "qxb6002380a", sum := "e3a689ed29f366f82426699d71e9121eaf46780dc29020f2966e8fc9ca6cb5eb", func := "example.com/keyshape/keyshape/zzlaws_root_g2.FnWordAddIsModularSum", spec := "fnWordAddIsModularSum", inPlace := ["math/bits.Add64", "math/bits.Sub64"], apart := false }
def FnWordAddIsModularSumSaid : Prop := fnWordAddIsModularSumRow.holds Try.pinned (OpenSpec.ofChange fnWordAddIsModularSumSpec)

/-- ITS FALSE NEIGHBOUR: 'it returns false'. Refute it at one input. -/
def fnWordAddIsModularSumWrong : ChangeSpec := { name := "fnWordAddIsModularSum", fn := fun _ => fun
  | [d1, d2, d3] => { results := [.lit (.bool false)], args := [d1, d2, d3] }
  | _ => none }
def FnWordAddIsModularSumWrongFalsely : Prop := fnWordAddIsModularSumRow.holds Try.pinned (OpenSpec.ofChange fnWordAddIsModularSumWrong)

/-- 'zzlaws_root_g1.FnWordCurveMulIsMontgomeryProduct': WHATEVER THE INPUT: true; the input reads as it did. -/
def fnWordCurveMulIsMontgomeryProductSpec : ChangeSpec := { name := "fnWordCurveMulIsMontgomeryProduct", fn := fun _ => fun
  | [d1, d2, d3] => { results := [.lit (.bool true)], args := [d1, d2, d3] }
  | _ => none }
def fnWordCurveMulIsMontgomeryProductRow : OpenClaim := { program := "qxb6002380a", sum := "e3a689ed29f366f82426699d71e9121eaf46780dc29020f2966e8fc9ca6cb5eb", func := "example.com/keyshape/keyshape/zzlaws_root_g1.FnWordCurveMulIsMontgomeryProduct", spec := "fnWordCurveMulIsMontgomeryProduct", inPlace := ["math/bits.Add64", "math/bits.Sub64"], apart := false }
def FnWordCurveMulIsMontgomeryProductSaid : Prop := fnWordCurveMulIsMontgomeryProductRow.holds Try.pinned (OpenSpec.ofChange fnWordCurveMulIsMontgomeryProductSpec)

/-- ITS FALSE NEIGHBOUR: 'it returns false'. Refute it at one input. -/
def fnWordCurveMulIsMontgomeryProductWrong : ChangeSpec := { name := "fnWordCurveMulIsMontgomeryProduct", fn := fun _ => fun
  | [d1, d2, d3] => { results := [.lit (.bool false)], args := [d1, d2, d3] }
  | _ => none }
def FnWordCurveMulIsMontgomeryProductWrongFalsely : Prop := fnWordCurveMulIsMontgomeryProductRow.holds Try.pinned (OpenSpec.ofChange fnWordCurveMulIsMontgomeryProductWrong)

end Rows
end Go.Proofs.Qxb6002380a
