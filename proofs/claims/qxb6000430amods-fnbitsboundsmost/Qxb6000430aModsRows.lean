/-
  No cell of these rows narrows 'for every input' (looked for: loops, veiled, ifaces, maps, wideKeys, modest, calm, conditions, laid).
  DERIVED. THE GIVEN ROWS OF THIS SEAT. 7 by the template 'for every input the law returns true; each argument reads behind the call as it read before'; 0 by the template 'total and deterministic' (their statements: Qxb6000430aModsTotals.lean).
  GIVEN WITH THE SEED: the statements are not yours to turn. If you find one false, say at which input.
  Laid BY PROGRAM, IN A SANDBOX (cutbox-rows.mjs): the forced cells as the released guide's own fill.sh prints them over the translation f8d1b8846043eb13… (all of the seat's roots in one cut). By AI agents, Wed Nov 11 2026. No macro, syntax, notation, axiom, sorry.
-/
import Derived.Test.Qxb6000430aModsChecked
import GoSem.Claim
import GoSem.ClaimJoined
import GoSem.ClaimMapViews
import Derived.JoinedTies
import Derived.KernelRfl
namespace Go.Proofs.Qxb6000430aMods
/- THE CELL 'sum', in the pinned program and in every row, IS THE sha256 OF THE DUMP (.gsa) THAT Qxb6000430aModsProg.lean LOADS. Nothing in Lean hashes anything: it is a label: what it is worth is what the hold of that sum in a sandbox is worth. -/
noncomputable def Trym.pinned : Pinned := { name := "qxb6000430amods", sum := "f8d1b8846043eb13579b084010ba3548f3d45cfaff89885372ddcec0b48e7694", checked := Trym.checked }
namespace Rows
def none {H : Type} : Left H := { results := [], args := [] }

/-- 'zzlaws_internal_agree_b1.FnMostIsGreatestEligible': WHATEVER THE INPUT: true; the input reads as it did. -/
def fnMostIsGreatestEligibleSpec : ChangeSpec := { name := "fnMostIsGreatestEligible", fn := fun _ => fun
  | [d1, d2, d3, d4, d5] => { results := [.lit (.bool true)], args := [d1, d2, d3, d4, d5] }
  | _ => none }
def fnMostIsGreatestEligibleRow : OpenClaim := { program := "qxb6000430amods", sum := "f8d1b8846043eb13579b084010ba3548f3d45cfaff89885372ddcec0b48e7694", func := "example.com/sortilege/sortilege/zzlaws_internal_agree_b1.FnMostIsGreatestEligible", spec := "fnMostIsGreatestEligible", make := .lifted ["publicsums"], apart := false }
def FnMostIsGreatestEligibleSaid : Prop := fnMostIsGreatestEligibleRow.holds Trym.pinned (OpenSpec.ofChange fnMostIsGreatestEligibleSpec)

/-- ITS FALSE NEIGHBOUR: 'it returns false'. Refute it at one input. -/
def fnMostIsGreatestEligibleWrong : ChangeSpec := { name := "fnMostIsGreatestEligible", fn := fun _ => fun
  | [d1, d2, d3, d4, d5] => { results := [.lit (.bool false)], args := [d1, d2, d3, d4, d5] }
  | _ => none }
def FnMostIsGreatestEligibleWrongFalsely : Prop := fnMostIsGreatestEligibleRow.holds Trym.pinned (OpenSpec.ofChange fnMostIsGreatestEligibleWrong)

/-- 'zzlaws_internal_agree_b1.FnMostOrderFree': WHATEVER THE INPUT: true; the input reads as it did. -/
def fnMostOrderFreeSpec : ChangeSpec := { name := "fnMostOrderFree", fn := fun _ => fun
  | [d1, d2, d3, d4, d5] => { results := [.lit (.bool true)], args := [d1, d2, d3, d4, d5] }
  | _ => none }
def fnMostOrderFreeRow : OpenClaim := { program := "qxb6000430amods", sum := "f8d1b8846043eb13579b084010ba3548f3d45cfaff89885372ddcec0b48e7694", func := "example.com/sortilege/sortilege/zzlaws_internal_agree_b1.FnMostOrderFree", spec := "fnMostOrderFree", make := .lifted ["publicsums"], apart := false }
def FnMostOrderFreeSaid : Prop := fnMostOrderFreeRow.holds Trym.pinned (OpenSpec.ofChange fnMostOrderFreeSpec)

/-- ITS FALSE NEIGHBOUR: 'it returns false'. Refute it at one input. -/
def fnMostOrderFreeWrong : ChangeSpec := { name := "fnMostOrderFree", fn := fun _ => fun
  | [d1, d2, d3, d4, d5] => { results := [.lit (.bool false)], args := [d1, d2, d3, d4, d5] }
  | _ => none }
def FnMostOrderFreeWrongFalsely : Prop := fnMostOrderFreeRow.holds Trym.pinned (OpenSpec.ofChange fnMostOrderFreeWrong)

/-- 'zzlaws_internal_agree_b1.FnMostBottomOnlyAddsBottom': WHATEVER THE INPUT: true; the input reads as it did. -/
def fnMostBottomOnlyAddsBottomSpec : ChangeSpec := { name := "fnMostBottomOnlyAddsBottom", fn := fun _ => fun
  | [d1, d2, d3, d4] => { results := [.lit (.bool true)], args := [d1, d2, d3, d4] }
  | _ => none }
def fnMostBottomOnlyAddsBottomRow : OpenClaim := { program := "qxb6000430amods", sum := "f8d1b8846043eb13579b084010ba3548f3d45cfaff89885372ddcec0b48e7694", func := "example.com/sortilege/sortilege/zzlaws_internal_agree_b1.FnMostBottomOnlyAddsBottom", spec := "fnMostBottomOnlyAddsBottom", make := .lifted ["publicsums"], apart := false }
def FnMostBottomOnlyAddsBottomSaid : Prop := fnMostBottomOnlyAddsBottomRow.holds Trym.pinned (OpenSpec.ofChange fnMostBottomOnlyAddsBottomSpec)

/-- ITS FALSE NEIGHBOUR: 'it returns false'. Refute it at one input. -/
def fnMostBottomOnlyAddsBottomWrong : ChangeSpec := { name := "fnMostBottomOnlyAddsBottom", fn := fun _ => fun
  | [d1, d2, d3, d4] => { results := [.lit (.bool false)], args := [d1, d2, d3, d4] }
  | _ => none }
def FnMostBottomOnlyAddsBottomWrongFalsely : Prop := fnMostBottomOnlyAddsBottomRow.holds Trym.pinned (OpenSpec.ofChange fnMostBottomOnlyAddsBottomWrong)

/-- 'zzlaws_internal_agree_b1.FnBitsAdditiveOverConcat': WHATEVER THE INPUT: true; the input reads as it did. -/
def fnBitsAdditiveOverConcatSpec : ChangeSpec := { name := "fnBitsAdditiveOverConcat", fn := fun _ => fun
  | [d1, d2, d3, d4, d5, d6] => { results := [.lit (.bool true)], args := [d1, d2, d3, d4, d5, d6] }
  | _ => none }
def fnBitsAdditiveOverConcatRow : OpenClaim := { program := "qxb6000430amods", sum := "f8d1b8846043eb13579b084010ba3548f3d45cfaff89885372ddcec0b48e7694", func := "example.com/sortilege/sortilege/zzlaws_internal_agree_b1.FnBitsAdditiveOverConcat", spec := "fnBitsAdditiveOverConcat", make := .lifted ["publicsums"], apart := false }
def FnBitsAdditiveOverConcatSaid : Prop := fnBitsAdditiveOverConcatRow.holds Trym.pinned (OpenSpec.ofChange fnBitsAdditiveOverConcatSpec)

/-- ITS FALSE NEIGHBOUR: 'it returns false'. Refute it at one input. -/
def fnBitsAdditiveOverConcatWrong : ChangeSpec := { name := "fnBitsAdditiveOverConcat", fn := fun _ => fun
  | [d1, d2, d3, d4, d5, d6] => { results := [.lit (.bool false)], args := [d1, d2, d3, d4, d5, d6] }
  | _ => none }
def FnBitsAdditiveOverConcatWrongFalsely : Prop := fnBitsAdditiveOverConcatRow.holds Trym.pinned (OpenSpec.ofChange fnBitsAdditiveOverConcatWrong)

/-- 'zzlaws_internal_agree_b1.FnBitsBoundsMost': WHATEVER THE INPUT: true; the input reads as it did. -/
def fnBitsBoundsMostSpec : ChangeSpec := { name := "fnBitsBoundsMost", fn := fun _ => fun
  | [d1, d2, d3] => { results := [.lit (.bool true)], args := [d1, d2, d3] }
  | _ => none }
def fnBitsBoundsMostRow : OpenClaim := { program := "qxb6000430amods", sum := "f8d1b8846043eb13579b084010ba3548f3d45cfaff89885372ddcec0b48e7694", func := "example.com/sortilege/sortilege/zzlaws_internal_agree_b1.FnBitsBoundsMost", spec := "fnBitsBoundsMost", make := .lifted ["publicsums"], apart := false }
def FnBitsBoundsMostSaid : Prop := fnBitsBoundsMostRow.holds Trym.pinned (OpenSpec.ofChange fnBitsBoundsMostSpec)

/-- ITS FALSE NEIGHBOUR: 'it returns false'. Refute it at one input. -/
def fnBitsBoundsMostWrong : ChangeSpec := { name := "fnBitsBoundsMost", fn := fun _ => fun
  | [d1, d2, d3] => { results := [.lit (.bool false)], args := [d1, d2, d3] }
  | _ => none }
def FnBitsBoundsMostWrongFalsely : Prop := fnBitsBoundsMostRow.holds Trym.pinned (OpenSpec.ofChange fnBitsBoundsMostWrong)

/-- 'zzlaws_internal_agree_b1.FnSortArrivalsIsStableSortByDelay': WHATEVER THE INPUT: true; the input reads as it did. -/
def fnSortArrivalsIsStableSortByDelaySpec : ChangeSpec := { name := "fnSortArrivalsIsStableSortByDelay", fn := fun _ => fun
  | [d1, d2, d3] => { results := [.lit (.bool true)], args := [d1, d2, d3] }
  | _ => none }
def fnSortArrivalsIsStableSortByDelayRow : OpenClaim := { program := "qxb6000430amods", sum := "f8d1b8846043eb13579b084010ba3548f3d45cfaff89885372ddcec0b48e7694", func := "example.com/sortilege/sortilege/zzlaws_internal_agree_b1.FnSortArrivalsIsStableSortByDelay", spec := "fnSortArrivalsIsStableSortByDelay", make := .lifted ["publicsums"], apart := false }
def FnSortArrivalsIsStableSortByDelaySaid : Prop := fnSortArrivalsIsStableSortByDelayRow.holds Trym.pinned (OpenSpec.ofChange fnSortArrivalsIsStableSortByDelaySpec)

/-- ITS FALSE NEIGHBOUR: 'it returns false'. Refute it at one input. -/
def fnSortArrivalsIsStableSortByDelayWrong : ChangeSpec := { name := "fnSortArrivalsIsStableSortByDelay", fn := fun _ => fun
  | [d1, d2, d3] => { results := [.lit (.bool false)], args := [d1, d2, d3] }
  | _ => none }
def FnSortArrivalsIsStableSortByDelayWrongFalsely : Prop := fnSortArrivalsIsStableSortByDelayRow.holds Trym.pinned (OpenSpec.ofChange fnSortArrivalsIsStableSortByDelayWrong)

/-- 'zzlaws_internal_agree_b1.FnSortArrivalsIgnoresBound': WHATEVER THE INPUT: true; the input reads as it did. -/
def fnSortArrivalsIgnoresBoundSpec : ChangeSpec := { name := "fnSortArrivalsIgnoresBound", fn := fun _ => fun
  | [d1, d2, d3, d4] => { results := [.lit (.bool true)], args := [d1, d2, d3, d4] }
  | _ => none }
def fnSortArrivalsIgnoresBoundRow : OpenClaim := { program := "qxb6000430amods", sum := "f8d1b8846043eb13579b084010ba3548f3d45cfaff89885372ddcec0b48e7694", func := "example.com/sortilege/sortilege/zzlaws_internal_agree_b1.FnSortArrivalsIgnoresBound", spec := "fnSortArrivalsIgnoresBound", make := .lifted ["publicsums"], apart := false }
def FnSortArrivalsIgnoresBoundSaid : Prop := fnSortArrivalsIgnoresBoundRow.holds Trym.pinned (OpenSpec.ofChange fnSortArrivalsIgnoresBoundSpec)

/-- ITS FALSE NEIGHBOUR: 'it returns false'. Refute it at one input. -/
def fnSortArrivalsIgnoresBoundWrong : ChangeSpec := { name := "fnSortArrivalsIgnoresBound", fn := fun _ => fun
  | [d1, d2, d3, d4] => { results := [.lit (.bool false)], args := [d1, d2, d3, d4] }
  | _ => none }
def FnSortArrivalsIgnoresBoundWrongFalsely : Prop := fnSortArrivalsIgnoresBoundRow.holds Trym.pinned (OpenSpec.ofChange fnSortArrivalsIgnoresBoundWrong)

end Rows
end Go.Proofs.Qxb6000430aMods
