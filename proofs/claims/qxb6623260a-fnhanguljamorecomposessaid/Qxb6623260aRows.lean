/-
  No cell of these rows narrows 'for every input' (looked for: loops, veiled, ifaces, maps, wideKeys, modest, calm, conditions, laid).
  DERIVED. THE GIVEN ROWS OF THIS SEAT. 1 by the template 'for every input the law returns true; each argument reads behind the call as it read before'; 0 by the template 'total and deterministic' (their statements: Qxb6623260aTotals.lean).
  GIVEN WITH THE SEED: the statements are not yours to turn. If you find one false, say at which input.
  Laid BY PROGRAM, IN A SANDBOX (cutbox-rows.mjs): the forced cells as the released guide's own fill.sh prints them over the translation a86e6a7f24b24545… (all of the seat's roots in one cut). By AI agents, Wed Nov 11 2026. No macro, syntax, notation, axiom, sorry.
-/
import Derived.Test.Qxb6623260aChecked
import GoSem.Claim
import GoSem.ClaimJoined
import GoSem.ClaimMapViews
import Derived.JoinedTies
import Derived.KernelRfl
namespace Go.Proofs.Qxb6623260a
/- THE CELL 'sum', in the pinned program and in every row, IS THE sha256 OF THE DUMP (.gsa) THAT Qxb6623260aProg.lean LOADS. Nothing in Lean hashes anything: it is a label: what it is worth is what the hold of that sum in a sandbox is worth. -/
noncomputable def Try.pinned : Pinned := { name := "qxb6623260a", sum := "a86e6a7f24b24545bd0af5df4d56373057a501046a35ec9fdb7ebc9f45325dfb", checked := Try.checked }
namespace Rows
def none {H : Type} : Left H := { results := [], args := [] }

/-- 'zzlaws_value_b1.FnHangulJamoRecomposes': WHATEVER THE INPUT: true; the input reads as it did. -/
def fnHangulJamoRecomposesSpec : ChangeSpec := { name := "fnHangulJamoRecomposes", fn := fun _ => fun
  | [d] => { results := [.lit (.bool true)], args := [d] }
  | _ => none }
def fnHangulJamoRecomposesRow : OpenClaim := { program := "qxb6623260a", sum := "a86e6a7f24b24545bd0af5df4d56373057a501046a35ec9fdb7ebc9f45325dfb", func := "example.com/undorow/undorow/zzlaws_value_b1.FnHangulJamoRecomposes", spec := "fnHangulJamoRecomposes", apart := false }
def FnHangulJamoRecomposesSaid : Prop := fnHangulJamoRecomposesRow.holds Try.pinned (OpenSpec.ofChange fnHangulJamoRecomposesSpec)

/-- ITS FALSE NEIGHBOUR: 'it returns false'. Refute it at one input. -/
def fnHangulJamoRecomposesWrong : ChangeSpec := { name := "fnHangulJamoRecomposes", fn := fun _ => fun
  | [d] => { results := [.lit (.bool false)], args := [d] }
  | _ => none }
def FnHangulJamoRecomposesWrongFalsely : Prop := fnHangulJamoRecomposesRow.holds Try.pinned (OpenSpec.ofChange fnHangulJamoRecomposesWrong)

end Rows
end Go.Proofs.Qxb6623260a
