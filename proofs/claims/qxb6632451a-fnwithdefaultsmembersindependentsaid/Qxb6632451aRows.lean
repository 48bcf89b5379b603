/-
  No cell of these rows narrows 'for every input' (looked for: loops, veiled, ifaces, maps, wideKeys, modest, calm, conditions, laid).
  DERIVED. THE GIVEN ROWS OF THIS SEAT. 2 by the template 'for every input the law returns true; each argument reads behind the call as it read before'; 0 by the template 'total and deterministic' (their statements: Qxb6632451aTotals.lean).
  GIVEN WITH THE SEED: the statements are not yours to turn. If you find one false, say at which input.
  Laid BY PROGRAM, IN A SANDBOX (cutbox-rows.mjs): the forced cells as the released guide's own fill.sh prints them over the translation b5ac7fbd303d88d2… (all of the seat's roots in one cut). By AI agents, Wed Nov 11 2026. No macro, syntax, notation, axiom, sorry.
-/
import Derived.Test.Qxb6632451aChecked
import GoSem.Claim
import GoSem.ClaimJoined
import GoSem.ClaimMapViews
import Derived.JoinedTies
import Derived.KernelRfl
namespace Go.Proofs.Qxb6632451a
/- THE CELL 'sum', in the pinned program and in every row, IS THE sha256 OF THE DUMP (.gsa) THAT Qxb6632451aProg.lean LOADS. Nothing in Lean hashes anything: it is a label: what it is worth is what the hold of that sum in a sandbox is worth. -/
noncomputable def Try.pinned : Pinned := { name := "qxb6632451a", sum := "b5ac7fbd303d88d266619b93de7f79890a028b234885228488513c284d0eaafd", checked := Try.checked }
namespace Rows
def none {H : Type} : Left H := { results := [], args := [] }

/-- 'zzlaws_saga_b1.FnWithDefaultsIdempotentFillsGaps': WHATEVER THE INPUT: true; the input reads as it did. -/
def fnWithDefaultsIdempotentFillsGapsSpec : ChangeSpec := { name := "fnWithDefaultsIdempotentFillsGaps", fn := fun _ => fun
  | [d1, d2, d3] => { results := [.lit (.bool true)], args := [d1, d2, d3] }
  | _ => none }
def fnWithDefaultsIdempotentFillsGapsRow : OpenClaim := { program := "qxb6632451a", sum := "b5ac7fbd303d88d266619b93de7f79890a028b234885228488513c284d0eaafd", func := "example.com/counterstep/counterstep/zzlaws_saga_b1.FnWithDefaultsIdempotentFillsGaps", spec := "fnWithDefaultsIdempotentFillsGaps", apart := false }
def FnWithDefaultsIdempotentFillsGapsSaid : Prop := fnWithDefaultsIdempotentFillsGapsRow.holds Try.pinned (OpenSpec.ofChange fnWithDefaultsIdempotentFillsGapsSpec)

/-- ITS FALSE NEIGHBOUR: 'it returns false'. Refute it at one input. -/
def fnWithDefaultsIdempotentFillsGapsWrong : ChangeSpec := { name := "fnWithDefaultsIdempotentFillsGaps", fn := fun _ => fun
  | [d1, d2, d3] => { results := [.lit (.bool false)], args := [d1, d2, d3] }
  | _ => none }
def FnWithDefaultsIdempotentFillsGapsWrongFalsely : Prop := fnWithDefaultsIdempotentFillsGapsRow.holds Try.pinned (OpenSpec.ofChange fnWithDefaultsIdempotentFillsGapsWrong)

/-- 'zzlaws_saga_b1.FnWithDefaultsMembersIndependent': WHATEVER THE INPUT: true; the input reads as it did. -/
def fnWithDefaultsMembersIndependentSpec : ChangeSpec := { name := "fnWithDefaultsMembersIndependent", fn := fun _ => fun
  | [d1, d2, d3, d4, d5, d6] => { results := [.lit (.bool true)], args := [d1, d2, d3, d4, d5, d6] }
  | _ => none }
def fnWithDefaultsMembersIndependentRow : OpenClaim := { program := "qxb6632451a", sum := "b5ac7fbd303d88d266619b93de7f79890a028b234885228488513c284d0eaafd", func := "example.com/counterstep/counterstep/zzlaws_saga_b1.FnWithDefaultsMembersIndependent", spec := "fnWithDefaultsMembersIndependent", apart := false }
def FnWithDefaultsMembersIndependentSaid : Prop := fnWithDefaultsMembersIndependentRow.holds Try.pinned (OpenSpec.ofChange fnWithDefaultsMembersIndependentSpec)

/-- ITS FALSE NEIGHBOUR: 'it returns false'. Refute it at one input. -/
def fnWithDefaultsMembersIndependentWrong : ChangeSpec := { name := "fnWithDefaultsMembersIndependent", fn := fun _ => fun
  | [d1, d2, d3, d4, d5, d6] => { results := [.lit (.bool false)], args := [d1, d2, d3, d4, d5, d6] }
  | _ => none }
def FnWithDefaultsMembersIndependentWrongFalsely : Prop := fnWithDefaultsMembersIndependentRow.holds Try.pinned (OpenSpec.ofChange fnWithDefaultsMembersIndependentWrong)

end Rows
end Go.Proofs.Qxb6632451a
