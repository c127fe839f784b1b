/-
  No cell of these rows narrows 'for every input' (looked for: loops, veiled, ifaces, maps, wideKeys, modest, calm, conditions, laid).
  DERIVED. THE GIVEN ROWS OF THIS SEAT. 3 by the template 'for every input the law returns true; each argument reads behind the call as it read before'; 0 by the template 'total and deterministic' (their statements: Qxb6605746aTotals.lean).
  GIVEN WITH THE SEED: the statements are not yours to turn. If you find one false, say at which input.
  Laid BY PROGRAM, IN A SANDBOX (cutbox-rows.mjs): the forced cells as the released guide's own fill.sh prints them over the translation b93690ed68600aaf… (all of the seat's roots in one cut). By AI agents, Wed Nov 11 2026. No macro, syntax, notation, axiom, sorry.
-/
import Derived.Test.Qxb6605746aChecked
import GoSem.Claim
import GoSem.ClaimJoined
import GoSem.ClaimMapViews
import Derived.JoinedTies
import Derived.KernelRfl
namespace Go.Proofs.Qxb6605746a
/- THE CELL 'sum', in the pinned program and in every row, IS THE sha256 OF THE DUMP (.gsa) THAT Qxb6605746aProg.lean LOADS. Nothing in Lean hashes anything: it is a label: what it is worth is what the hold of that sum in a sandbox is worth. -/
noncomputable def Try.pinned : Pinned := { name := "qxb6605746a", sum := "b93690ed68600aafeee076abbe2a756bf90f34d4a1f41d73b14a029fb3a50ac6", checked := Try.checked }
namespace Rows
def none {H : Type} : Left H := { results := [], args := [] }

/-- 'zzlaws_standardize_b1.FnDeviationAtUnitMeanSquareIsSquaredMean': WHATEVER THE INPUT: true; the input reads as it did. -/
def fnDeviationAtUnitMeanSquareIsSquaredMeanSpec : ChangeSpec := { name := "fnDeviationAtUnitMeanSquareIsSquaredMean", fn := fun _ => fun
  | [d1, d2] => { results := [.lit (.bool true)], args := [d1, d2] }
  | _ => none }
def fnDeviationAtUnitMeanSquareIsSquaredMeanRow : OpenClaim := { program := "qxb6605746a", sum := "b93690ed68600aafeee076abbe2a756bf90f34d4a1f41d73b14a029fb3a50ac6", func := "example.com/evenfooting/evenfooting/zzlaws_standardize_b1.FnDeviationAtUnitMeanSquareIsSquaredMean", spec := "fnDeviationAtUnitMeanSquareIsSquaredMean", inPlace := ["math.archLog", "math.Float64bits", "math.Float64frombits"], apart := false }
def FnDeviationAtUnitMeanSquareIsSquaredMeanSaid : Prop := fnDeviationAtUnitMeanSquareIsSquaredMeanRow.holds Try.pinned (OpenSpec.ofChange fnDeviationAtUnitMeanSquareIsSquaredMeanSpec)

/-- ITS FALSE NEIGHBOUR: 'it returns false'. Refute it at one input. -/
def fnDeviationAtUnitMeanSquareIsSquaredMeanWrong : ChangeSpec := { name := "fnDeviationAtUnitMeanSquareIsSquaredMean", fn := fun _ => fun
  | [d1, d2] => { results := [.lit (.bool false)], args := [d1, d2] }
  | _ => none }
def FnDeviationAtUnitMeanSquareIsSquaredMeanWrongFalsely : Prop := fnDeviationAtUnitMeanSquareIsSquaredMeanRow.holds Try.pinned (OpenSpec.ofChange fnDeviationAtUnitMeanSquareIsSquaredMeanWrong)

/-- 'zzlaws_standardize_b1.FnColumnMeansAreMeansOfObservedCells': WHATEVER THE INPUT: true; the input reads as it did. -/
def fnColumnMeansAreMeansOfObservedCellsSpec : ChangeSpec := { name := "fnColumnMeansAreMeansOfObservedCells", fn := fun _ => fun
  | [d1, d2, d3, d4, d5] => { results := [.lit (.bool true)], args := [d1, d2, d3, d4, d5] }
  | _ => none }
def fnColumnMeansAreMeansOfObservedCellsRow : OpenClaim := { program := "qxb6605746a", sum := "b93690ed68600aafeee076abbe2a756bf90f34d4a1f41d73b14a029fb3a50ac6", func := "example.com/evenfooting/evenfooting/zzlaws_standardize_b1.FnColumnMeansAreMeansOfObservedCells", spec := "fnColumnMeansAreMeansOfObservedCells", unfollowed := true, recurses := true, apart := false }
def FnColumnMeansAreMeansOfObservedCellsSaid : Prop := fnColumnMeansAreMeansOfObservedCellsRow.holds Try.pinned (OpenSpec.ofChange fnColumnMeansAreMeansOfObservedCellsSpec)

/-- ITS FALSE NEIGHBOUR: 'it returns false'. Refute it at one input. -/
def fnColumnMeansAreMeansOfObservedCellsWrong : ChangeSpec := { name := "fnColumnMeansAreMeansOfObservedCells", fn := fun _ => fun
  | [d1, d2, d3, d4, d5] => { results := [.lit (.bool false)], args := [d1, d2, d3, d4, d5] }
  | _ => none }
def FnColumnMeansAreMeansOfObservedCellsWrongFalsely : Prop := fnColumnMeansAreMeansOfObservedCellsRow.holds Try.pinned (OpenSpec.ofChange fnColumnMeansAreMeansOfObservedCellsWrong)

/-- 'zzlaws_standardize_b1.FnColumnMeansForgetOldValuesAndLaterColumns': WHATEVER THE INPUT: true; the input reads as it did. -/
def fnColumnMeansForgetOldValuesAndLaterColumnsSpec : ChangeSpec := { name := "fnColumnMeansForgetOldValuesAndLaterColumns", fn := fun _ => fun
  | [d1, d2, d3, d4, d5] => { results := [.lit (.bool true)], args := [d1, d2, d3, d4, d5] }
  | _ => none }
def fnColumnMeansForgetOldValuesAndLaterColumnsRow : OpenClaim := { program := "qxb6605746a", sum := "b93690ed68600aafeee076abbe2a756bf90f34d4a1f41d73b14a029fb3a50ac6", func := "example.com/evenfooting/evenfooting/zzlaws_standardize_b1.FnColumnMeansForgetOldValuesAndLaterColumns", spec := "fnColumnMeansForgetOldValuesAndLaterColumns", unfollowed := true, recurses := true, apart := false }
def FnColumnMeansForgetOldValuesAndLaterColumnsSaid : Prop := fnColumnMeansForgetOldValuesAndLaterColumnsRow.holds Try.pinned (OpenSpec.ofChange fnColumnMeansForgetOldValuesAndLaterColumnsSpec)

/-- ITS FALSE NEIGHBOUR: 'it returns false'. Refute it at one input. -/
def fnColumnMeansForgetOldValuesAndLaterColumnsWrong : ChangeSpec := { name := "fnColumnMeansForgetOldValuesAndLaterColumns", fn := fun _ => fun
  | [d1, d2, d3, d4, d5] => { results := [.lit (.bool false)], args := [d1, d2, d3, d4, d5] }
  | _ => none }
def FnColumnMeansForgetOldValuesAndLaterColumnsWrongFalsely : Prop := fnColumnMeansForgetOldValuesAndLaterColumnsRow.holds Try.pinned (OpenSpec.ofChange fnColumnMeansForgetOldValuesAndLaterColumnsWrong)

end Rows
end Go.Proofs.Qxb6605746a
