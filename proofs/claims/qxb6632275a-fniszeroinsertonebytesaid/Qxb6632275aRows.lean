/-
  No cell of these rows narrows 'for every input' (looked for: loops, veiled, ifaces, maps, wideKeys, modest, calm, conditions, laid).
  DERIVED. THE GIVEN ROWS OF THIS SEAT. 2 by the template 'for every input the law returns true; each argument reads behind the call as it read before'; 0 by the template 'total and deterministic' (their statements: Qxb6632275aTotals.lean).
  GIVEN WITH THE SEED: the statements are not yours to turn. If you find one false, say at which input.
  Laid BY PROGRAM, IN A SANDBOX (cutbox-rows.mjs): the forced cells as the released guide's own fill.sh prints them over the translation b7495ddb0e07dcdf… (all of the seat's roots in one cut). By AI agents, Wed Nov 11 2026. No macro, syntax, notation, axiom, sorry.
-/
import Derived.Test.Qxb6632275aChecked
import GoSem.Claim
import GoSem.ClaimJoined
import GoSem.ClaimMapViews
import Derived.JoinedTies
import Derived.KernelRfl
namespace Go.Proofs.Qxb6632275a
/- THE CELL 'sum', in the pinned program and in every row, IS THE sha256 OF THE DUMP (.gsa) THAT Qxb6632275aProg.lean LOADS. Nothing in Lean hashes anything: it is a label: what it is worth is what the hold of that sum in a sandbox is worth. -/
noncomputable def Try.pinned : Pinned := { name := "qxb6632275a", sum := "b7495ddb0e07dcdf0e3f3374a1797de51ec642bbc632e12bf6c96d0f63458871", checked := Try.checked }
namespace Rows
def none {H : Type} : Left H := { results := [], args := [] }

/-- 'zzlaws_sphinx_b1.FnIsZeroCutAgrees': WHATEVER THE INPUT: true; the input reads as it did. -/
def fnIsZeroCutAgreesSpec : ChangeSpec := { name := "fnIsZeroCutAgrees", fn := fun _ => fun
  | [d1, d2] => { results := [.lit (.bool true)], args := [d1, d2] }
  | _ => none }
def fnIsZeroCutAgreesRow : OpenClaim := { program := "qxb6632275a", sum := "b7495ddb0e07dcdf0e3f3374a1797de51ec642bbc632e12bf6c96d0f63458871", func := "example.com/hopfold/hopfold/zzlaws_sphinx_b1.FnIsZeroCutAgrees", spec := "fnIsZeroCutAgrees", apart := false }
def FnIsZeroCutAgreesSaid : Prop := fnIsZeroCutAgreesRow.holds Try.pinned (OpenSpec.ofChange fnIsZeroCutAgreesSpec)

/-- ITS FALSE NEIGHBOUR: 'it returns false'. Refute it at one input. -/
def fnIsZeroCutAgreesWrong : ChangeSpec := { name := "fnIsZeroCutAgrees", fn := fun _ => fun
  | [d1, d2] => { results := [.lit (.bool false)], args := [d1, d2] }
  | _ => none }
def FnIsZeroCutAgreesWrongFalsely : Prop := fnIsZeroCutAgreesRow.holds Try.pinned (OpenSpec.ofChange fnIsZeroCutAgreesWrong)

/-- 'zzlaws_sphinx_b1.FnIsZeroInsertOneByte': WHATEVER THE INPUT: true; the input reads as it did. -/
def fnIsZeroInsertOneByteSpec : ChangeSpec := { name := "fnIsZeroInsertOneByte", fn := fun _ => fun
  | [d1, d2, d3] => { results := [.lit (.bool true)], args := [d1, d2, d3] }
  | _ => none }
def fnIsZeroInsertOneByteRow : OpenClaim := { program := "qxb6632275a", sum := "b7495ddb0e07dcdf0e3f3374a1797de51ec642bbc632e12bf6c96d0f63458871", func := "example.com/hopfold/hopfold/zzlaws_sphinx_b1.FnIsZeroInsertOneByte", spec := "fnIsZeroInsertOneByte", apart := false }
def FnIsZeroInsertOneByteSaid : Prop := fnIsZeroInsertOneByteRow.holds Try.pinned (OpenSpec.ofChange fnIsZeroInsertOneByteSpec)

/-- ITS FALSE NEIGHBOUR: 'it returns false'. Refute it at one input. -/
def fnIsZeroInsertOneByteWrong : ChangeSpec := { name := "fnIsZeroInsertOneByte", fn := fun _ => fun
  | [d1, d2, d3] => { results := [.lit (.bool false)], args := [d1, d2, d3] }
  | _ => none }
def FnIsZeroInsertOneByteWrongFalsely : Prop := fnIsZeroInsertOneByteRow.holds Try.pinned (OpenSpec.ofChange fnIsZeroInsertOneByteWrong)

end Rows
end Go.Proofs.Qxb6632275a
