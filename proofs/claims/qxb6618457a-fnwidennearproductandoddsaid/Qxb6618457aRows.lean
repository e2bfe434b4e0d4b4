/-
  No cell of these rows narrows 'for every input' (looked for: loops, veiled, ifaces, maps, wideKeys, modest, calm, conditions, laid).
  DERIVED. THE GIVEN ROWS OF THIS SEAT. 1 by the template 'for every input the law returns true; each argument reads behind the call as it read before'; 0 by the template 'total and deterministic' (their statements: Qxb6618457aTotals.lean).
  GIVEN WITH THE SEED: the statements are not yours to turn. If you find one false, say at which input.
  Laid BY PROGRAM, IN A SANDBOX (cutbox-rows.mjs): the forced cells as the released guide's own fill.sh prints them over the translation 77927c9723ced02a… (all of the seat's roots in one cut). By AI agents, Wed Nov 11 2026. No macro, syntax, notation, axiom, sorry.
-/
import Derived.Test.Qxb6618457aChecked
import GoSem.Claim
import GoSem.ClaimJoined
import GoSem.ClaimMapViews
import Derived.JoinedTies
import Derived.KernelRfl
namespace Go.Proofs.Qxb6618457a
/- THE CELL 'sum', in the pinned program and in every row, IS THE sha256 OF THE DUMP (.gsa) THAT Qxb6618457aProg.lean LOADS. Nothing in Lean hashes anything: it is a label: what it is worth is what the hold of that sum in a sandbox is worth. -/
noncomputable def Try.pinned : Pinned := { name := "qxb6618457a", sum := "77927c9723ced02a808d6014ffdae9cacea499597d0973bca579a2c691bcbd59", checked := Try.checked }
namespace Rows
def none {H : Type} : Left H := { results := [], args := [] }

/-- 'zzlaws_blackscholes_b1.FnWidenNearProductAndOdd': WHATEVER THE INPUT: true; the input reads as it did. -/
def fnWidenNearProductAndOddSpec : ChangeSpec := { name := "fnWidenNearProductAndOdd", fn := fun _ => fun
  | [d1, d2, d3, d4] => { results := [.lit (.bool true)], args := [d1, d2, d3, d4] }
  | _ => none }
def fnWidenNearProductAndOddRow : OpenClaim := { program := "qxb6618457a", sum := "77927c9723ced02a808d6014ffdae9cacea499597d0973bca579a2c691bcbd59", func := "example.com/vestline/vestline/zzlaws_blackscholes_b1.FnWidenNearProductAndOdd", spec := "fnWidenNearProductAndOdd", apart := false }
def FnWidenNearProductAndOddSaid : Prop := fnWidenNearProductAndOddRow.holds Try.pinned (OpenSpec.ofChange fnWidenNearProductAndOddSpec)

/-- ITS FALSE NEIGHBOUR: 'it returns false'. Refute it at one input. -/
def fnWidenNearProductAndOddWrong : ChangeSpec := { name := "fnWidenNearProductAndOdd", fn := fun _ => fun
  | [d1, d2, d3, d4] => { results := [.lit (.bool false)], args := [d1, d2, d3, d4] }
  | _ => none }
def FnWidenNearProductAndOddWrongFalsely : Prop := fnWidenNearProductAndOddRow.holds Try.pinned (OpenSpec.ofChange fnWidenNearProductAndOddWrong)

end Rows
end Go.Proofs.Qxb6618457a
