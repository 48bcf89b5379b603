/-
  No cell of these rows narrows 'for every input' (looked for: loops, veiled, ifaces, maps, wideKeys, modest, calm, conditions, laid).
  DERIVED. THE GIVEN ROWS OF THIS SEAT. 2 by the template 'for every input the law returns true; each argument reads behind the call as it read before'; 0 by the template 'total and deterministic' (their statements: Qxb6632361aTotals.lean).
  GIVEN WITH THE SEED: the statements are not yours to turn. If you find one false, say at which input.
  Laid BY PROGRAM, IN A SANDBOX (cutbox-rows.mjs): the forced cells as the released guide's own fill.sh prints them over the translation 839d78ce4a1140c7… (all of the seat's roots in one cut). By AI agents, Wed Nov 11 2026. No macro, syntax, notation, axiom, sorry.
-/
import Derived.Test.Qxb6632361aChecked
import GoSem.Claim
import GoSem.ClaimJoined
import GoSem.ClaimMapViews
import Derived.JoinedTies
import Derived.KernelRfl
namespace Go.Proofs.Qxb6632361a
/- THE CELL 'sum', in the pinned program and in every row, IS THE sha256 OF THE DUMP (.gsa) THAT Qxb6632361aProg.lean LOADS. Nothing in Lean hashes anything: it is a label: what it is worth is what the hold of that sum in a sandbox is worth. -/
noncomputable def Try.pinned : Pinned := { name := "qxb6632361a", sum := "839d78ce4a1140c7b983a5db437a4ad848818f7eb6ebea91a8a77796602a1f4a", checked := Try.checked }
namespace Rows
def none {H : Type} : Left H := { results := [], args := [] }

/-- 'zzlaws_internal_jsonscan_b1.FnNumberEndIsLongestViableNumber': WHATEVER THE INPUT: true; the input reads as it did. -/
def fnNumberEndIsLongestViableNumberSpec : ChangeSpec := { name := "fnNumberEndIsLongestViableNumber", fn := fun _ => fun
  | [d1, d2] => { results := [.lit (.bool true)], args := [d1, d2] }
  | _ => none }
def fnNumberEndIsLongestViableNumberRow : OpenClaim := { program := "qxb6632361a", sum := "839d78ce4a1140c7b983a5db437a4ad848818f7eb6ebea91a8a77796602a1f4a", func := "example.com/muhur/muhur/zzlaws_internal_jsonscan_b1.FnNumberEndIsLongestViableNumber", spec := "fnNumberEndIsLongestViableNumber", apart := false }
def FnNumberEndIsLongestViableNumberSaid : Prop := fnNumberEndIsLongestViableNumberRow.holds Try.pinned (OpenSpec.ofChange fnNumberEndIsLongestViableNumberSpec)

/-- ITS FALSE NEIGHBOUR: 'it returns false'. Refute it at one input. -/
def fnNumberEndIsLongestViableNumberWrong : ChangeSpec := { name := "fnNumberEndIsLongestViableNumber", fn := fun _ => fun
  | [d1, d2] => { results := [.lit (.bool false)], args := [d1, d2] }
  | _ => none }
def FnNumberEndIsLongestViableNumberWrongFalsely : Prop := fnNumberEndIsLongestViableNumberRow.holds Try.pinned (OpenSpec.ofChange fnNumberEndIsLongestViableNumberWrong)

/-- 'zzlaws_internal_jsonscan_b1.FnNumberEndCutAnywhere': WHATEVER THE INPUT: true; the input reads as it did. -/
def fnNumberEndCutAnywhereSpec : ChangeSpec := { name := "fnNumberEndCutAnywhere", fn := fun _ => fun
  | [d1, d2, d3] => { results := [.lit (.bool true)], args := [d1, d2, d3] }
  | _ => none }
def fnNumberEndCutAnywhereRow : OpenClaim := { program := "qxb6632361a", sum := "839d78ce4a1140c7b983a5db437a4ad848818f7eb6ebea91a8a77796602a1f4a", func := "example.com/muhur/muhur/zzlaws_internal_jsonscan_b1.FnNumberEndCutAnywhere", spec := "fnNumberEndCutAnywhere", apart := false }
def FnNumberEndCutAnywhereSaid : Prop := fnNumberEndCutAnywhereRow.holds Try.pinned (OpenSpec.ofChange fnNumberEndCutAnywhereSpec)

/-- ITS FALSE NEIGHBOUR: 'it returns false'. Refute it at one input. -/
def fnNumberEndCutAnywhereWrong : ChangeSpec := { name := "fnNumberEndCutAnywhere", fn := fun _ => fun
  | [d1, d2, d3] => { results := [.lit (.bool false)], args := [d1, d2, d3] }
  | _ => none }
def FnNumberEndCutAnywhereWrongFalsely : Prop := fnNumberEndCutAnywhereRow.holds Try.pinned (OpenSpec.ofChange fnNumberEndCutAnywhereWrong)

end Rows
end Go.Proofs.Qxb6632361a
