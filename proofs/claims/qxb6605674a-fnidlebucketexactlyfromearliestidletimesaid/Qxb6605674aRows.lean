/-
  No cell of these rows narrows 'for every input' (looked for: loops, veiled, ifaces, maps, wideKeys, modest, calm, conditions, laid).
  DERIVED. THE GIVEN ROWS OF THIS SEAT. 5 by the template 'for every input the law returns true; each argument reads behind the call as it read before'; 0 by the template 'total and deterministic' (their statements: Qxb6605674aTotals.lean).
  GIVEN WITH THE SEED: the statements are not yours to turn. If you find one false, say at which input.
  Laid BY PROGRAM, IN A SANDBOX (cutbox-rows.mjs): the forced cells as the released guide's own fill.sh prints them over the translation 7341e97e5f4b74db… (all of the seat's roots in one cut). By AI agents, Wed Nov 11 2026. No macro, syntax, notation, axiom, sorry.
-/
import Derived.Test.Qxb6605674aChecked
import GoSem.Claim
import GoSem.ClaimJoined
import GoSem.ClaimMapViews
import Derived.JoinedTies
import Derived.KernelRfl
namespace Go.Proofs.Qxb6605674a
/- THE CELL 'sum', in the pinned program and in every row, IS THE sha256 OF THE DUMP (.gsa) THAT Qxb6605674aProg.lean LOADS. Nothing in Lean hashes anything: it is a label: what it is worth is what the hold of that sum in a sandbox is worth. -/
noncomputable def Try.pinned : Pinned := { name := "qxb6605674a", sum := "7341e97e5f4b74dbd03b4671c76d70c2a394f915d2b211bbaf8a7ba49d8d4869", checked := Try.checked }
namespace Rows
def none {H : Type} : Left H := { results := [], args := [] }

/-- 'zzlaws_root_b1.FnFullExactlyFromEarliestFullTime': WHATEVER THE INPUT: true; the input reads as it did. -/
def fnFullExactlyFromEarliestFullTimeSpec : ChangeSpec := { name := "fnFullExactlyFromEarliestFullTime", fn := fun _ => fun
  | [d1, d2, d3, d4, d5, d6, d7, d8, d9, d10, d11, d12] => { results := [.lit (.bool true)], args := [d1, d2, d3, d4, d5, d6, d7, d8, d9, d10, d11, d12] }
  | _ => none }
def fnFullExactlyFromEarliestFullTimeRow : OpenClaim := { program := "qxb6605674a", sum := "7341e97e5f4b74dbd03b4671c76d70c2a394f915d2b211bbaf8a7ba49d8d4869", func := "example.com/portunus/portunus/zzlaws_root_b1.FnFullExactlyFromEarliestFullTime", spec := "fnFullExactlyFromEarliestFullTime", plainKeys := false, apart := false }
def FnFullExactlyFromEarliestFullTimeSaid : Prop := fnFullExactlyFromEarliestFullTimeRow.holds Try.pinned (OpenSpec.ofChange fnFullExactlyFromEarliestFullTimeSpec)

/-- ITS FALSE NEIGHBOUR: 'it returns false'. Refute it at one input. -/
def fnFullExactlyFromEarliestFullTimeWrong : ChangeSpec := { name := "fnFullExactlyFromEarliestFullTime", fn := fun _ => fun
  | [d1, d2, d3, d4, d5, d6, d7, d8, d9, d10, d11, d12] => { results := [.lit (.bool false)], args := [d1, d2, d3, d4, d5, d6, d7, d8, d9, d10, d11, d12] }
  | _ => none }
def FnFullExactlyFromEarliestFullTimeWrongFalsely : Prop := fnFullExactlyFromEarliestFullTimeRow.holds Try.pinned (OpenSpec.ofChange fnFullExactlyFromEarliestFullTimeWrong)

/-- 'zzlaws_root_b1.FnFullAgreesWithBucketStateFull': WHATEVER THE INPUT: true; the input reads as it did. -/
def fnFullAgreesWithBucketStateFullSpec : ChangeSpec := { name := "fnFullAgreesWithBucketStateFull", fn := fun _ => fun
  | [d1, d2, d3, d4, d5, d6, d7, d8, d9, d10, d11, d12] => { results := [.lit (.bool true)], args := [d1, d2, d3, d4, d5, d6, d7, d8, d9, d10, d11, d12] }
  | _ => none }
def fnFullAgreesWithBucketStateFullRow : OpenClaim := { program := "qxb6605674a", sum := "7341e97e5f4b74dbd03b4671c76d70c2a394f915d2b211bbaf8a7ba49d8d4869", func := "example.com/portunus/portunus/zzlaws_root_b1.FnFullAgreesWithBucketStateFull", spec := "fnFullAgreesWithBucketStateFull", plainKeys := false, apart := false }
def FnFullAgreesWithBucketStateFullSaid : Prop := fnFullAgreesWithBucketStateFullRow.holds Try.pinned (OpenSpec.ofChange fnFullAgreesWithBucketStateFullSpec)

/-- ITS FALSE NEIGHBOUR: 'it returns false'. Refute it at one input. -/
def fnFullAgreesWithBucketStateFullWrong : ChangeSpec := { name := "fnFullAgreesWithBucketStateFull", fn := fun _ => fun
  | [d1, d2, d3, d4, d5, d6, d7, d8, d9, d10, d11, d12] => { results := [.lit (.bool false)], args := [d1, d2, d3, d4, d5, d6, d7, d8, d9, d10, d11, d12] }
  | _ => none }
def FnFullAgreesWithBucketStateFullWrongFalsely : Prop := fnFullAgreesWithBucketStateFullRow.holds Try.pinned (OpenSpec.ofChange fnFullAgreesWithBucketStateFullWrong)

/-- 'zzlaws_root_b1.FnAcquireNumbersLimitsByFirstAcquisition': WHATEVER THE INPUT: true; the input reads as it did. -/
def fnAcquireNumbersLimitsByFirstAcquisitionSpec : ChangeSpec := { name := "fnAcquireNumbersLimitsByFirstAcquisition", fn := fun _ => fun
  | [d1, d2, d3] => { results := [.lit (.bool true)], args := [d1, d2, d3] }
  | _ => none }
def fnAcquireNumbersLimitsByFirstAcquisitionRow : OpenClaim := { program := "qxb6605674a", sum := "7341e97e5f4b74dbd03b4671c76d70c2a394f915d2b211bbaf8a7ba49d8d4869", func := "example.com/portunus/portunus/zzlaws_root_b1.FnAcquireNumbersLimitsByFirstAcquisition", spec := "fnAcquireNumbersLimitsByFirstAcquisition", plainKeys := false, apart := false }
def FnAcquireNumbersLimitsByFirstAcquisitionSaid : Prop := fnAcquireNumbersLimitsByFirstAcquisitionRow.holds Try.pinned (OpenSpec.ofChange fnAcquireNumbersLimitsByFirstAcquisitionSpec)

/-- ITS FALSE NEIGHBOUR: 'it returns false'. Refute it at one input. -/
def fnAcquireNumbersLimitsByFirstAcquisitionWrong : ChangeSpec := { name := "fnAcquireNumbersLimitsByFirstAcquisition", fn := fun _ => fun
  | [d1, d2, d3] => { results := [.lit (.bool false)], args := [d1, d2, d3] }
  | _ => none }
def FnAcquireNumbersLimitsByFirstAcquisitionWrongFalsely : Prop := fnAcquireNumbersLimitsByFirstAcquisitionRow.holds Try.pinned (OpenSpec.ofChange fnAcquireNumbersLimitsByFirstAcquisitionWrong)

/-- 'zzlaws_root_b1.FnAcquireReusesReleasedIndicesLastReleasedFirst': WHATEVER THE INPUT: true; the input reads as it did. -/
def fnAcquireReusesReleasedIndicesLastReleasedFirstSpec : ChangeSpec := { name := "fnAcquireReusesReleasedIndicesLastReleasedFirst", fn := fun _ => fun
  | [d1, d2, d3, d4] => { results := [.lit (.bool true)], args := [d1, d2, d3, d4] }
  | _ => none }
def fnAcquireReusesReleasedIndicesLastReleasedFirstRow : OpenClaim := { program := "qxb6605674a", sum := "7341e97e5f4b74dbd03b4671c76d70c2a394f915d2b211bbaf8a7ba49d8d4869", func := "example.com/portunus/portunus/zzlaws_root_b1.FnAcquireReusesReleasedIndicesLastReleasedFirst", spec := "fnAcquireReusesReleasedIndicesLastReleasedFirst", plainKeys := false, apart := false }
def FnAcquireReusesReleasedIndicesLastReleasedFirstSaid : Prop := fnAcquireReusesReleasedIndicesLastReleasedFirstRow.holds Try.pinned (OpenSpec.ofChange fnAcquireReusesReleasedIndicesLastReleasedFirstSpec)

/-- ITS FALSE NEIGHBOUR: 'it returns false'. Refute it at one input. -/
def fnAcquireReusesReleasedIndicesLastReleasedFirstWrong : ChangeSpec := { name := "fnAcquireReusesReleasedIndicesLastReleasedFirst", fn := fun _ => fun
  | [d1, d2, d3, d4] => { results := [.lit (.bool false)], args := [d1, d2, d3, d4] }
  | _ => none }
def FnAcquireReusesReleasedIndicesLastReleasedFirstWrongFalsely : Prop := fnAcquireReusesReleasedIndicesLastReleasedFirstRow.holds Try.pinned (OpenSpec.ofChange fnAcquireReusesReleasedIndicesLastReleasedFirstWrong)

/-- 'zzlaws_root_b1.FnIdleBucketExactlyFromEarliestIdleTime': WHATEVER THE INPUT: true; the input reads as it did. -/
def fnIdleBucketExactlyFromEarliestIdleTimeSpec : ChangeSpec := { name := "fnIdleBucketExactlyFromEarliestIdleTime", fn := fun _ => fun
  | [d1, d2, d3, d4, d5, d6, d7, d8, d9] => { results := [.lit (.bool true)], args := [d1, d2, d3, d4, d5, d6, d7, d8, d9] }
  | _ => none }
def fnIdleBucketExactlyFromEarliestIdleTimeRow : OpenClaim := { program := "qxb6605674a", sum := "7341e97e5f4b74dbd03b4671c76d70c2a394f915d2b211bbaf8a7ba49d8d4869", func := "example.com/portunus/portunus/zzlaws_root_b1.FnIdleBucketExactlyFromEarliestIdleTime", spec := "fnIdleBucketExactlyFromEarliestIdleTime", inPlace := ["math/bits.Add64"], plainKeys := false, apart := false }
def FnIdleBucketExactlyFromEarliestIdleTimeSaid : Prop := fnIdleBucketExactlyFromEarliestIdleTimeRow.holds Try.pinned (OpenSpec.ofChange fnIdleBucketExactlyFromEarliestIdleTimeSpec)

/-- ITS FALSE NEIGHBOUR: 'it returns false'. Refute it at one input. -/
def fnIdleBucketExactlyFromEarliestIdleTimeWrong : ChangeSpec := { name := "fnIdleBucketExactlyFromEarliestIdleTime", fn := fun _ => fun
  | [d1, d2, d3, d4, d5, d6, d7, d8, d9] => { results := [.lit (.bool false)], args := [d1, d2, d3, d4, d5, d6, d7, d8, d9] }
  | _ => none }
def FnIdleBucketExactlyFromEarliestIdleTimeWrongFalsely : Prop := fnIdleBucketExactlyFromEarliestIdleTimeRow.holds Try.pinned (OpenSpec.ofChange fnIdleBucketExactlyFromEarliestIdleTimeWrong)

end Rows
end Go.Proofs.Qxb6605674a
