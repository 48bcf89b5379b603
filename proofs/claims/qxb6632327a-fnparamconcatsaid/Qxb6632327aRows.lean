/-
  No cell of these rows narrows 'for every input' (looked for: loops, veiled, ifaces, maps, wideKeys, modest, calm, conditions, laid).
  DERIVED. THE GIVEN ROWS OF THIS SEAT. 2 by the template 'for every input the law returns true; each argument reads behind the call as it read before'; 0 by the template 'total and deterministic' (their statements: Qxb6632327aTotals.lean).
  GIVEN WITH THE SEED: the statements are not yours to turn. If you find one false, say at which input.
  Laid BY PROGRAM, IN A SANDBOX (cutbox-rows.mjs): the forced cells as the released guide's own fill.sh prints them over the translation 43e71f1d53fa4434… (all of the seat's roots in one cut). By AI agents, Wed Nov 11 2026. No macro, syntax, notation, axiom, sorry.
-/
import Derived.Test.Qxb6632327aChecked
import GoSem.Claim
import GoSem.ClaimJoined
import GoSem.ClaimMapViews
import Derived.JoinedTies
import Derived.KernelRfl
namespace Go.Proofs.Qxb6632327a
/- THE CELL 'sum', in the pinned program and in every row, IS THE sha256 OF THE DUMP (.gsa) THAT Qxb6632327aProg.lean LOADS. Nothing in Lean hashes anything: it is a label: what it is worth is what the hold of that sum in a sandbox is worth. -/
noncomputable def Try.pinned : Pinned := { name := "qxb6632327a", sum := "43e71f1d53fa4434e37bf5614fec769738d7e372194e28425bce5e9feb8cf886", checked := Try.checked }
namespace Rows
def none {H : Type} : Left H := { results := [], args := [] }

/-- 'zzlaws_internal_smpp_b1.FnParamFirstOfTagWins': WHATEVER THE INPUT: true; the input reads as it did. -/
def fnParamFirstOfTagWinsSpec : ChangeSpec := { name := "fnParamFirstOfTagWins", fn := fun _ => fun
  | [d1, d2, d3, d4, d5] => { results := [.lit (.bool true)], args := [d1, d2, d3, d4, d5] }
  | _ => none }
def fnParamFirstOfTagWinsRow : OpenClaim := { program := "qxb6632327a", sum := "43e71f1d53fa4434e37bf5614fec769738d7e372194e28425bce5e9feb8cf886", func := "example.com/wiregram/wiregram/zzlaws_internal_smpp_b1.FnParamFirstOfTagWins", spec := "fnParamFirstOfTagWins", apart := false }
def FnParamFirstOfTagWinsSaid : Prop := fnParamFirstOfTagWinsRow.holds Try.pinned (OpenSpec.ofChange fnParamFirstOfTagWinsSpec)

/-- ITS FALSE NEIGHBOUR: 'it returns false'. Refute it at one input. -/
def fnParamFirstOfTagWinsWrong : ChangeSpec := { name := "fnParamFirstOfTagWins", fn := fun _ => fun
  | [d1, d2, d3, d4, d5] => { results := [.lit (.bool false)], args := [d1, d2, d3, d4, d5] }
  | _ => none }
def FnParamFirstOfTagWinsWrongFalsely : Prop := fnParamFirstOfTagWinsRow.holds Try.pinned (OpenSpec.ofChange fnParamFirstOfTagWinsWrong)

/-- 'zzlaws_internal_smpp_b1.FnParamConcat': WHATEVER THE INPUT: true; the input reads as it did. -/
def fnParamConcatSpec : ChangeSpec := { name := "fnParamConcat", fn := fun _ => fun
  | [d1, d2, d3, d4, d5] => { results := [.lit (.bool true)], args := [d1, d2, d3, d4, d5] }
  | _ => none }
def fnParamConcatRow : OpenClaim := { program := "qxb6632327a", sum := "43e71f1d53fa4434e37bf5614fec769738d7e372194e28425bce5e9feb8cf886", func := "example.com/wiregram/wiregram/zzlaws_internal_smpp_b1.FnParamConcat", spec := "fnParamConcat", apart := false }
def FnParamConcatSaid : Prop := fnParamConcatRow.holds Try.pinned (OpenSpec.ofChange fnParamConcatSpec)

/-- ITS FALSE NEIGHBOUR: 'it returns false'. Refute it at one input. -/
def fnParamConcatWrong : ChangeSpec := { name := "fnParamConcat", fn := fun _ => fun
  | [d1, d2, d3, d4, d5] => { results := [.lit (.bool false)], args := [d1, d2, d3, d4, d5] }
  | _ => none }
def FnParamConcatWrongFalsely : Prop := fnParamConcatRow.holds Try.pinned (OpenSpec.ofChange fnParamConcatWrong)

end Rows
end Go.Proofs.Qxb6632327a
