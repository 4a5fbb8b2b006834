/-
  No cell of these rows narrows 'for every input' (looked for: loops, veiled, ifaces, maps, wideKeys, modest, calm, conditions, laid).
  DERIVED. THE GIVEN ROWS OF THIS SEAT. 2 by the template 'for every input the law returns true; each argument reads behind the call as it read before'; 0 by the template 'total and deterministic' (their statements: Qxb6614393aModsTotals.lean).
  GIVEN WITH THE SEED: the statements are not yours to turn. If you find one false, say at which input.
  Laid BY PROGRAM, IN A SANDBOX (cutbox-rows.mjs): the forced cells as the released guide's own fill.sh prints them over the translation baa787fb99762e20… (all of the seat's roots in one cut). By AI agents, Wed Nov 11 2026. No macro, syntax, notation, axiom, sorry.
-/
import Derived.Test.Qxb6614393aModsChecked
import GoSem.Claim
import GoSem.ClaimJoined
import GoSem.ClaimMapViews
import Derived.JoinedTies
import Derived.KernelRfl
namespace Go.Proofs.Qxb6614393aMods
/- THE CELL 'sum', in the pinned program and in every row, IS THE sha256 OF THE DUMP (.gsa) THAT Qxb6614393aModsProg.lean LOADS. Nothing in Lean hashes anything: it is a label: what it is worth is what the hold of that sum in a sandbox is worth. -/
noncomputable def Trym.pinned : Pinned := { name := "qxb6614393amods", sum := "baa787fb99762e203d92b69c3b105538d9a3e530530d9fb33ea820563b485dfa", checked := Trym.checked }
namespace Rows
def none {H : Type} : Left H := { results := [], args := [] }

/-- 'zzlaws_internal_node_b1.FnWeightCutsAddUp': WHATEVER THE INPUT: true; the input reads as it did. -/
def fnWeightCutsAddUpSpec : ChangeSpec := { name := "fnWeightCutsAddUp", fn := fun _ => fun
  | [d1, d2, d3, d4] => { results := [.lit (.bool true)], args := [d1, d2, d3, d4] }
  | _ => none }
def fnWeightCutsAddUpRow : OpenClaim := { program := "qxb6614393amods", sum := "baa787fb99762e203d92b69c3b105538d9a3e530530d9fb33ea820563b485dfa", func := "example.com/tideway/tideway/zzlaws_internal_node_b1.FnWeightCutsAddUp", spec := "fnWeightCutsAddUp", make := .lifted ["publicsums"], apart := false }
def FnWeightCutsAddUpSaid : Prop := fnWeightCutsAddUpRow.holds Trym.pinned (OpenSpec.ofChange fnWeightCutsAddUpSpec)

/-- ITS FALSE NEIGHBOUR: 'it returns false'. Refute it at one input. -/
def fnWeightCutsAddUpWrong : ChangeSpec := { name := "fnWeightCutsAddUp", fn := fun _ => fun
  | [d1, d2, d3, d4] => { results := [.lit (.bool false)], args := [d1, d2, d3, d4] }
  | _ => none }
def FnWeightCutsAddUpWrongFalsely : Prop := fnWeightCutsAddUpRow.holds Trym.pinned (OpenSpec.ofChange fnWeightCutsAddUpWrong)

/-- 'zzlaws_internal_node_b1.FnWeightKeyCountsAsTwoCopiesInTheValue': WHATEVER THE INPUT: true; the input reads as it did. -/
def fnWeightKeyCountsAsTwoCopiesInTheValueSpec : ChangeSpec := { name := "fnWeightKeyCountsAsTwoCopiesInTheValue", fn := fun _ => fun
  | [d1, d2] => { results := [.lit (.bool true)], args := [d1, d2] }
  | _ => none }
def fnWeightKeyCountsAsTwoCopiesInTheValueRow : OpenClaim := { program := "qxb6614393amods", sum := "baa787fb99762e203d92b69c3b105538d9a3e530530d9fb33ea820563b485dfa", func := "example.com/tideway/tideway/zzlaws_internal_node_b1.FnWeightKeyCountsAsTwoCopiesInTheValue", spec := "fnWeightKeyCountsAsTwoCopiesInTheValue", make := .lifted ["publicsums"], apart := false }
def FnWeightKeyCountsAsTwoCopiesInTheValueSaid : Prop := fnWeightKeyCountsAsTwoCopiesInTheValueRow.holds Trym.pinned (OpenSpec.ofChange fnWeightKeyCountsAsTwoCopiesInTheValueSpec)

/-- ITS FALSE NEIGHBOUR: 'it returns false'. Refute it at one input. -/
def fnWeightKeyCountsAsTwoCopiesInTheValueWrong : ChangeSpec := { name := "fnWeightKeyCountsAsTwoCopiesInTheValue", fn := fun _ => fun
  | [d1, d2] => { results := [.lit (.bool false)], args := [d1, d2] }
  | _ => none }
def FnWeightKeyCountsAsTwoCopiesInTheValueWrongFalsely : Prop := fnWeightKeyCountsAsTwoCopiesInTheValueRow.holds Trym.pinned (OpenSpec.ofChange fnWeightKeyCountsAsTwoCopiesInTheValueWrong)

end Rows
end Go.Proofs.Qxb6614393aMods
