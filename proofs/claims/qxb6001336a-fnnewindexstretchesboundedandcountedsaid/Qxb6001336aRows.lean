/-
  No cell of these rows narrows 'for every input' (looked for: loops, veiled, ifaces, maps, wideKeys, modest, calm, conditions, laid).
  DERIVED. THE GIVEN ROWS OF THIS SEAT. 3 by the template 'for every input the law returns true; each argument reads behind the call as it read before'; 0 by the template 'total and deterministic' (their statements: Qxb6001336aTotals.lean).
  GIVEN WITH THE SEED: the statements are not yours to turn. If you find one false, say at which input.
  Laid BY PROGRAM, IN A SANDBOX (cutbox-rows.mjs): the forced cells as the released guide's own fill.sh prints them over the translation b258525fd572ed0b… (all of the seat's roots in one cut). By AI agents, Wed Nov 11 2026. No macro, syntax, notation, axiom, sorry.
-/
import Derived.Test.Qxb6001336aChecked
import GoSem.Claim
import GoSem.ClaimJoined
import GoSem.ClaimMapViews
import Derived.JoinedTies
import Derived.KernelRfl
namespace Go.Proofs.Qxb6001336a
/- THE CELL 'sum', in the pinned program and in every row, IS THE sha256 OF THE DUMP (.gsa) THAT Qxb6001336aProg.lean LOADS. Nothing in Lean hashes anything: it is a label: what it is worth is what the hold of that sum in a sandbox is worth. -/
noncomputable def Try.pinned : Pinned := { name := "qxb6001336a", sum := "b258525fd572ed0b973dece51c351939c4c75489d6f985596089143dffea3871", checked := Try.checked }
namespace Rows
def none {H : Type} : Left H := { results := [], args := [] }

/-- 'zzlaws_pkg_calendar_b1.FnIndexSearchCountsSessionsBefore': WHATEVER THE INPUT: true; the input reads as it did. -/
def fnIndexSearchCountsSessionsBeforeSpec : ChangeSpec := { name := "fnIndexSearchCountsSessionsBefore", fn := fun _ => fun
  | [d1, d2, d3] => { results := [.lit (.bool true)], args := [d1, d2, d3] }
  | _ => none }
def fnIndexSearchCountsSessionsBeforeRow : OpenClaim := { program := "qxb6001336a", sum := "b258525fd572ed0b973dece51c351939c4c75489d6f985596089143dffea3871", func := "example.com/zhuangu/zhuangu/zzlaws_pkg_calendar_b1.FnIndexSearchCountsSessionsBefore", spec := "fnIndexSearchCountsSessionsBefore", recurses := true, apart := false }
def FnIndexSearchCountsSessionsBeforeSaid : Prop := fnIndexSearchCountsSessionsBeforeRow.holds Try.pinned (OpenSpec.ofChange fnIndexSearchCountsSessionsBeforeSpec)

/-- ITS FALSE NEIGHBOUR: 'it returns false'. Refute it at one input. -/
def fnIndexSearchCountsSessionsBeforeWrong : ChangeSpec := { name := "fnIndexSearchCountsSessionsBefore", fn := fun _ => fun
  | [d1, d2, d3] => { results := [.lit (.bool false)], args := [d1, d2, d3] }
  | _ => none }
def FnIndexSearchCountsSessionsBeforeWrongFalsely : Prop := fnIndexSearchCountsSessionsBeforeRow.holds Try.pinned (OpenSpec.ofChange fnIndexSearchCountsSessionsBeforeWrong)

/-- 'zzlaws_pkg_calendar_b1.FnIndexBeforeAgreesWithSearch': WHATEVER THE INPUT: true; the input reads as it did. -/
def fnIndexBeforeAgreesWithSearchSpec : ChangeSpec := { name := "fnIndexBeforeAgreesWithSearch", fn := fun _ => fun
  | [d1, d2, d3] => { results := [.lit (.bool true)], args := [d1, d2, d3] }
  | _ => none }
def fnIndexBeforeAgreesWithSearchRow : OpenClaim := { program := "qxb6001336a", sum := "b258525fd572ed0b973dece51c351939c4c75489d6f985596089143dffea3871", func := "example.com/zhuangu/zhuangu/zzlaws_pkg_calendar_b1.FnIndexBeforeAgreesWithSearch", spec := "fnIndexBeforeAgreesWithSearch", recurses := true, apart := false }
def FnIndexBeforeAgreesWithSearchSaid : Prop := fnIndexBeforeAgreesWithSearchRow.holds Try.pinned (OpenSpec.ofChange fnIndexBeforeAgreesWithSearchSpec)

/-- ITS FALSE NEIGHBOUR: 'it returns false'. Refute it at one input. -/
def fnIndexBeforeAgreesWithSearchWrong : ChangeSpec := { name := "fnIndexBeforeAgreesWithSearch", fn := fun _ => fun
  | [d1, d2, d3] => { results := [.lit (.bool false)], args := [d1, d2, d3] }
  | _ => none }
def FnIndexBeforeAgreesWithSearchWrongFalsely : Prop := fnIndexBeforeAgreesWithSearchRow.holds Try.pinned (OpenSpec.ofChange fnIndexBeforeAgreesWithSearchWrong)

/-- 'zzlaws_pkg_calendar_b1.FnNewIndexStretchesBoundedAndCounted': WHATEVER THE INPUT: true; the input reads as it did. -/
def fnNewIndexStretchesBoundedAndCountedSpec : ChangeSpec := { name := "fnNewIndexStretchesBoundedAndCounted", fn := fun _ => fun
  | [d1, d2] => { results := [.lit (.bool true)], args := [d1, d2] }
  | _ => none }
def fnNewIndexStretchesBoundedAndCountedRow : OpenClaim := { program := "qxb6001336a", sum := "b258525fd572ed0b973dece51c351939c4c75489d6f985596089143dffea3871", func := "example.com/zhuangu/zhuangu/zzlaws_pkg_calendar_b1.FnNewIndexStretchesBoundedAndCounted", spec := "fnNewIndexStretchesBoundedAndCounted", recurses := true, apart := false }
def FnNewIndexStretchesBoundedAndCountedSaid : Prop := fnNewIndexStretchesBoundedAndCountedRow.holds Try.pinned (OpenSpec.ofChange fnNewIndexStretchesBoundedAndCountedSpec)

/-- ITS FALSE NEIGHBOUR: 'it returns false'. Refute it at one input. -/
def fnNewIndexStretchesBoundedAndCountedWrong : ChangeSpec := { name := "fnNewIndexStretchesBoundedAndCounted", fn := fun _ => fun
  | [d1, d2] => { results := [.lit (.bool false)], args := [d1, d2] }
  | _ => none }
def FnNewIndexStretchesBoundedAndCountedWrongFalsely : Prop := fnNewIndexStretchesBoundedAndCountedRow.holds Try.pinned (OpenSpec.ofChange fnNewIndexStretchesBoundedAndCountedWrong)

end Rows
end Go.Proofs.Qxb6001336a
