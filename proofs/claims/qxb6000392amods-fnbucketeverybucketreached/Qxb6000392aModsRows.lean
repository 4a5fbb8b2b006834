/-
  No cell of these rows narrows 'for every input' (looked for: loops, veiled, ifaces, maps, wideKeys, modest, calm, conditions, laid).
  DERIVED. THE GIVEN ROWS OF THIS SEAT. 6 by the template 'for every input the law returns true; each argument reads behind the call as it read before'; 0 by the template 'total and deterministic' (their statements: Qxb6000392aModsTotals.lean).
  GIVEN WITH THE SEED: the statements are not yours to turn. If you find one false, say at which input.
  Laid BY PROGRAM, IN A SANDBOX (cutbox-rows.mjs): the forced cells as the released guide's own fill.sh prints them over the translation 2771ebaece85402c… (all of the seat's roots in one cut). By AI agents, Wed Nov 11 2026. No macro, syntax, notation, axiom, sorry.
-/
import Derived.Test.Qxb6000392aModsChecked
import GoSem.Claim
import GoSem.ClaimJoined
import GoSem.ClaimMapViews
import Derived.JoinedTies
import Derived.KernelRfl
namespace Go.Proofs.Qxb6000392aMods
/- THE CELL 'sum', in the pinned program and in every row, IS THE sha256 OF THE DUMP (.gsa) THAT Qxb6000392aModsProg.lean LOADS. Nothing in Lean hashes anything: it is a label: what it is worth is what the hold of that sum in a sandbox is worth. -/
noncomputable def Trym.pinned : Pinned := { name := "qxb6000392amods", sum := "2771ebaece85402ca9590084b0c9d2441ce9ba7d88a38833e59c4384c4e63902", checked := Trym.checked }
namespace Rows
def none {H : Type} : Left H := { results := [], args := [] }

/-- 'zzlaws_root_b1.FnBucketInRangeAndMonotone': WHATEVER THE INPUT: true; the input reads as it did. -/
def fnBucketInRangeAndMonotoneSpec : ChangeSpec := { name := "fnBucketInRangeAndMonotone", fn := fun _ => fun
  | [d1, d2, d3, d4] => { results := [.lit (.bool true)], args := [d1, d2, d3, d4] }
  | _ => none }
def fnBucketInRangeAndMonotoneRow : OpenClaim := { program := "qxb6000392amods", sum := "2771ebaece85402ca9590084b0c9d2441ce9ba7d88a38833e59c4384c4e63902", func := "example.com/capwalk/capwalk/zzlaws_root_b1.FnBucketInRangeAndMonotone", spec := "fnBucketInRangeAndMonotone", make := .lifted ["publicsums"], apart := false }
def FnBucketInRangeAndMonotoneSaid : Prop := fnBucketInRangeAndMonotoneRow.holds Trym.pinned (OpenSpec.ofChange fnBucketInRangeAndMonotoneSpec)

/-- ITS FALSE NEIGHBOUR: 'it returns false'. Refute it at one input. -/
def fnBucketInRangeAndMonotoneWrong : ChangeSpec := { name := "fnBucketInRangeAndMonotone", fn := fun _ => fun
  | [d1, d2, d3, d4] => { results := [.lit (.bool false)], args := [d1, d2, d3, d4] }
  | _ => none }
def FnBucketInRangeAndMonotoneWrongFalsely : Prop := fnBucketInRangeAndMonotoneRow.holds Trym.pinned (OpenSpec.ofChange fnBucketInRangeAndMonotoneWrong)

/-- 'zzlaws_root_b1.FnBucketLiteralIsScaledFloor': WHATEVER THE INPUT: true; the input reads as it did. -/
def fnBucketLiteralIsScaledFloorSpec : ChangeSpec := { name := "fnBucketLiteralIsScaledFloor", fn := fun _ => fun
  | [d1, d2] => { results := [.lit (.bool true)], args := [d1, d2] }
  | _ => none }
def fnBucketLiteralIsScaledFloorRow : OpenClaim := { program := "qxb6000392amods", sum := "2771ebaece85402ca9590084b0c9d2441ce9ba7d88a38833e59c4384c4e63902", func := "example.com/capwalk/capwalk/zzlaws_root_b1.FnBucketLiteralIsScaledFloor", spec := "fnBucketLiteralIsScaledFloor", make := .lifted ["publicsums"], apart := false }
def FnBucketLiteralIsScaledFloorSaid : Prop := fnBucketLiteralIsScaledFloorRow.holds Trym.pinned (OpenSpec.ofChange fnBucketLiteralIsScaledFloorSpec)

/-- ITS FALSE NEIGHBOUR: 'it returns false'. Refute it at one input. -/
def fnBucketLiteralIsScaledFloorWrong : ChangeSpec := { name := "fnBucketLiteralIsScaledFloor", fn := fun _ => fun
  | [d1, d2] => { results := [.lit (.bool false)], args := [d1, d2] }
  | _ => none }
def FnBucketLiteralIsScaledFloorWrongFalsely : Prop := fnBucketLiteralIsScaledFloorRow.holds Trym.pinned (OpenSpec.ofChange fnBucketLiteralIsScaledFloorWrong)

/-- 'zzlaws_root_b1.FnBucketEveryBucketReached': WHATEVER THE INPUT: true; the input reads as it did. -/
def fnBucketEveryBucketReachedSpec : ChangeSpec := { name := "fnBucketEveryBucketReached", fn := fun _ => fun
  | [d1, d2] => { results := [.lit (.bool true)], args := [d1, d2] }
  | _ => none }
def fnBucketEveryBucketReachedRow : OpenClaim := { program := "qxb6000392amods", sum := "2771ebaece85402ca9590084b0c9d2441ce9ba7d88a38833e59c4384c4e63902", func := "example.com/capwalk/capwalk/zzlaws_root_b1.FnBucketEveryBucketReached", spec := "fnBucketEveryBucketReached", make := .lifted ["publicsums"], apart := false }
def FnBucketEveryBucketReachedSaid : Prop := fnBucketEveryBucketReachedRow.holds Trym.pinned (OpenSpec.ofChange fnBucketEveryBucketReachedSpec)

/-- ITS FALSE NEIGHBOUR: 'it returns false'. Refute it at one input. -/
def fnBucketEveryBucketReachedWrong : ChangeSpec := { name := "fnBucketEveryBucketReached", fn := fun _ => fun
  | [d1, d2] => { results := [.lit (.bool false)], args := [d1, d2] }
  | _ => none }
def FnBucketEveryBucketReachedWrongFalsely : Prop := fnBucketEveryBucketReachedRow.holds Trym.pinned (OpenSpec.ofChange fnBucketEveryBucketReachedWrong)

/-- 'zzlaws_root_b1.FnCompareDistanceMatchesFirstDifferingBit': WHATEVER THE INPUT: true; the input reads as it did. -/
def fnCompareDistanceMatchesFirstDifferingBitSpec : ChangeSpec := { name := "fnCompareDistanceMatchesFirstDifferingBit", fn := fun _ => fun
  | [d1, d2, d3] => { results := [.lit (.bool true)], args := [d1, d2, d3] }
  | _ => none }
def fnCompareDistanceMatchesFirstDifferingBitRow : OpenClaim := { program := "qxb6000392amods", sum := "2771ebaece85402ca9590084b0c9d2441ce9ba7d88a38833e59c4384c4e63902", func := "example.com/capwalk/capwalk/zzlaws_root_b1.FnCompareDistanceMatchesFirstDifferingBit", spec := "fnCompareDistanceMatchesFirstDifferingBit", inPlace := ["internal/bytealg.Compare"], make := .lifted ["publicsums"], apart := false }
def FnCompareDistanceMatchesFirstDifferingBitSaid : Prop := fnCompareDistanceMatchesFirstDifferingBitRow.holds Trym.pinned (OpenSpec.ofChange fnCompareDistanceMatchesFirstDifferingBitSpec)

/-- ITS FALSE NEIGHBOUR: 'it returns false'. Refute it at one input. -/
def fnCompareDistanceMatchesFirstDifferingBitWrong : ChangeSpec := { name := "fnCompareDistanceMatchesFirstDifferingBit", fn := fun _ => fun
  | [d1, d2, d3] => { results := [.lit (.bool false)], args := [d1, d2, d3] }
  | _ => none }
def FnCompareDistanceMatchesFirstDifferingBitWrongFalsely : Prop := fnCompareDistanceMatchesFirstDifferingBitRow.holds Trym.pinned (OpenSpec.ofChange fnCompareDistanceMatchesFirstDifferingBitWrong)

/-- 'zzlaws_root_b1.FnCompareDistanceAntisymmetricAndCentred': WHATEVER THE INPUT: true; the input reads as it did. -/
def fnCompareDistanceAntisymmetricAndCentredSpec : ChangeSpec := { name := "fnCompareDistanceAntisymmetricAndCentred", fn := fun _ => fun
  | [d1, d2, d3] => { results := [.lit (.bool true)], args := [d1, d2, d3] }
  | _ => none }
def fnCompareDistanceAntisymmetricAndCentredRow : OpenClaim := { program := "qxb6000392amods", sum := "2771ebaece85402ca9590084b0c9d2441ce9ba7d88a38833e59c4384c4e63902", func := "example.com/capwalk/capwalk/zzlaws_root_b1.FnCompareDistanceAntisymmetricAndCentred", spec := "fnCompareDistanceAntisymmetricAndCentred", inPlace := ["internal/bytealg.Compare"], make := .lifted ["publicsums"], apart := false }
def FnCompareDistanceAntisymmetricAndCentredSaid : Prop := fnCompareDistanceAntisymmetricAndCentredRow.holds Trym.pinned (OpenSpec.ofChange fnCompareDistanceAntisymmetricAndCentredSpec)

/-- ITS FALSE NEIGHBOUR: 'it returns false'. Refute it at one input. -/
def fnCompareDistanceAntisymmetricAndCentredWrong : ChangeSpec := { name := "fnCompareDistanceAntisymmetricAndCentred", fn := fun _ => fun
  | [d1, d2, d3] => { results := [.lit (.bool false)], args := [d1, d2, d3] }
  | _ => none }
def FnCompareDistanceAntisymmetricAndCentredWrongFalsely : Prop := fnCompareDistanceAntisymmetricAndCentredRow.holds Trym.pinned (OpenSpec.ofChange fnCompareDistanceAntisymmetricAndCentredWrong)

/-- 'zzlaws_root_b1.FnCompareDistanceTransitive': WHATEVER THE INPUT: true; the input reads as it did. -/
def fnCompareDistanceTransitiveSpec : ChangeSpec := { name := "fnCompareDistanceTransitive", fn := fun _ => fun
  | [d1, d2, d3, d4] => { results := [.lit (.bool true)], args := [d1, d2, d3, d4] }
  | _ => none }
def fnCompareDistanceTransitiveRow : OpenClaim := { program := "qxb6000392amods", sum := "2771ebaece85402ca9590084b0c9d2441ce9ba7d88a38833e59c4384c4e63902", func := "example.com/capwalk/capwalk/zzlaws_root_b1.FnCompareDistanceTransitive", spec := "fnCompareDistanceTransitive", inPlace := ["internal/bytealg.Compare"], make := .lifted ["publicsums"], apart := false }
def FnCompareDistanceTransitiveSaid : Prop := fnCompareDistanceTransitiveRow.holds Trym.pinned (OpenSpec.ofChange fnCompareDistanceTransitiveSpec)

/-- ITS FALSE NEIGHBOUR: 'it returns false'. Refute it at one input. -/
def fnCompareDistanceTransitiveWrong : ChangeSpec := { name := "fnCompareDistanceTransitive", fn := fun _ => fun
  | [d1, d2, d3, d4] => { results := [.lit (.bool false)], args := [d1, d2, d3, d4] }
  | _ => none }
def FnCompareDistanceTransitiveWrongFalsely : Prop := fnCompareDistanceTransitiveRow.holds Trym.pinned (OpenSpec.ofChange fnCompareDistanceTransitiveWrong)

end Rows
end Go.Proofs.Qxb6000392aMods
