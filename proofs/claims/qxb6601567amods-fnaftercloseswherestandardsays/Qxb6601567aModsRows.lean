/-
  No cell of these rows narrows 'for every input' (looked for: loops, veiled, ifaces, maps, wideKeys, modest, calm, conditions, laid).
  DERIVED. THE GIVEN ROWS OF THIS SEAT. 1 by the template 'for every input the law returns true; each argument reads behind the call as it read before'; 0 by the template 'total and deterministic' (their statements: Qxb6601567aModsTotals.lean).
  GIVEN WITH THE SEED: the statements are not yours to turn. If you find one false, say at which input.
  Laid BY PROGRAM, IN A SANDBOX (cutbox-rows.mjs): the forced cells as the released guide's own fill.sh prints them over the translation 5a952baf73a418c4… (all of the seat's roots in one cut). By AI agents, Wed Nov 11 2026. No macro, syntax, notation, axiom, sorry.
-/
import Derived.Test.Qxb6601567aModsChecked
import GoSem.Claim
import GoSem.ClaimJoined
import GoSem.ClaimMapViews
import Derived.JoinedTies
import Derived.KernelRfl
namespace Go.Proofs.Qxb6601567aMods
/- THE CELL 'sum', in the pinned program and in every row, IS THE sha256 OF THE DUMP (.gsa) THAT Qxb6601567aModsProg.lean LOADS. Nothing in Lean hashes anything: it is a label: what it is worth is what the hold of that sum in a sandbox is worth. -/
noncomputable def Trym.pinned : Pinned := { name := "qxb6601567amods", sum := "5a952baf73a418c463b4406b443f6d1c327aa5323291fa2751b5fc599418436d", checked := Trym.checked }
namespace Rows
def none {H : Type} : Left H := { results := [], args := [] }

/-- 'zzlaws_internal_web_b1.FnAfterClosesWhereStandardSays': WHATEVER THE INPUT: true; the input reads as it did. -/
def fnAfterClosesWhereStandardSaysSpec : ChangeSpec := { name := "fnAfterClosesWhereStandardSays", fn := fun _ => fun
  | [d] => { results := [.lit (.bool true)], args := [d] }
  | _ => none }
def fnAfterClosesWhereStandardSaysRow : OpenClaim := { program := "qxb6601567amods", sum := "5a952baf73a418c463b4406b443f6d1c327aa5323291fa2751b5fc599418436d", func := "example.com/measured-issuer/measured-issuer/zzlaws_internal_web_b1.FnAfterClosesWhereStandardSays", spec := "fnAfterClosesWhereStandardSays", make := .lifted ["publicsums"], apart := false }
def FnAfterClosesWhereStandardSaysSaid : Prop := fnAfterClosesWhereStandardSaysRow.holds Trym.pinned (OpenSpec.ofChange fnAfterClosesWhereStandardSaysSpec)

/-- ITS FALSE NEIGHBOUR: 'it returns false'. Refute it at one input. -/
def fnAfterClosesWhereStandardSaysWrong : ChangeSpec := { name := "fnAfterClosesWhereStandardSays", fn := fun _ => fun
  | [d] => { results := [.lit (.bool false)], args := [d] }
  | _ => none }
def FnAfterClosesWhereStandardSaysWrongFalsely : Prop := fnAfterClosesWhereStandardSaysRow.holds Trym.pinned (OpenSpec.ofChange fnAfterClosesWhereStandardSaysWrong)

end Rows
end Go.Proofs.Qxb6601567aMods
