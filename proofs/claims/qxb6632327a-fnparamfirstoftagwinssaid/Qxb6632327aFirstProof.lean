/-
  'Rows.FnParamFirstOfTagWinsSaid', proved: the walk (Qxb6632327aFirst) and the row's step, after the guide's shell for slices of integers.
-/
import Derived.Test.Qxb6632327aRows
import Derived.Test.Qxb6632327aOpen
namespace Go.Proofs.Qxb6632327a.fnParamFirstOfTagWins
open Go.ChangeShapes Go.WideShapes Go.ChangeAt Go.RowKit
open Go.ChangeMaps (open_string shut_string)
set_option linter.unusedVariables false

theorem walk (a0 a1 a3 : Option Addr) (n0 c0 n1 c1 n3 c3 : Nat) (t q : Int) (T : Nat → Int) (F : Nat → SV) (w : World) (m0 : n0 ≤ maxLen) (m1 : n1 ≤ maxLen) (ht : Tags w a0 n0 T) (hv : Vals w a1 n1 F) (hF : ∀ j, j < n1 → Byts w (F j)) (hs : Byts w ⟨a3, n3, c3⟩) :
    Calls Try.prog 3 #[.slice a0 n0 c0, .slice a1 n1 c1, .int .u16 t, .slice a3 n3 c3, .int .u16 q] w fun e w' => e = .returned (.bool true) ∧ Below w.heap.size w w' := by
  by_cases h : 65536 < n0 ∨ 65536 < n1 ∨ 1048576 < n3
  · exact first_size a0 a1 a3 n0 c0 n1 c1 n3 c3 t q F w m0 m1 hs.1 hv (fun j hj => (hF j hj).1) h
  · exact first_main a0 a1 n0 c0 n1 c1 ⟨a3, n3, c3⟩ t q T F w (by omega) (by omega) (show n3 ≤ 1048576 by omega) ht hv hF hs

set_option maxRecDepth 100000 in
theorem lifted (os : Os) (started : os.Started) (H : Type) (enc : TypeId × Value → H) :
    ReturnsInHanded {} Try.checked os 3 .any (Rows.fnParamFirstOfTagWinsSpec.pre6 enc Try.prog Try.f3 Rows.fnParamFirstOfTagWinsRow.domain false) (Rows.fnParamFirstOfTagWinsSpec.post enc Try.prog Try.f3 false true false false) := by
  refine returnsInHanded_of_change (C := Try.checked) own started (by kernel_rfl) Try.func3
    (ChangeSpec.witness6 (enc := enc) (C := Try.checked) false ⟨#[], #[.slice none 0 0, .slice none 0 0, .int .u16 0, .slice none 0 0, .int .u16 0], []⟩ 8 (by kernel_rfl) (by kernel_rfl) (by kernel_rfl) (by kernel_rfl)) ?_
  intro W base args ds gs before hval0 hW hcnd _
  have hval : ∀ (j : Nat) t v, Try.f3.params[j]? = some t → args[j]? = some v → Value.okWide Try.prog W .any base t v := hval0
  have hW' := hW
  obtain ⟨p, q, hA0, hV, rfl, hfz, hnd⟩ := hW
  have hA : DataW.TrodAll enc Try.prog W 0 (fun _ => true) true Try.f3.params.toList args.toList ds p := hA0
  rw [Try.params3] at hA hval
  obtain ⟨v0, vs0, d0, ds0, p0, q0, hargs, rfl, rfl, h0, r0⟩ := trodAll_cons hA
  obtain ⟨v1, vs1, d1, ds1, p1, q1, rfl, rfl, rfl, h1, r1⟩ := trodAll_cons r0
  obtain ⟨v2, vs2, d2, ds2, p2, q2, rfl, rfl, rfl, h2, r2⟩ := trodAll_cons r1
  obtain ⟨v3, vs3, d3, ds3, p3, q3, rfl, rfl, rfl, h3, r3⟩ := trodAll_cons r2
  obtain ⟨v4, vs4, d4, ds4, p4, q4, rfl, rfl, rfl, h4, r4⟩ := trodAll_cons r3
  obtain ⟨rfl, rfl, rfl⟩ := trodAll_nil r4
  obtain rfl : args = #[v0, v1, v2, v3, v4] := by cases args; simp_all
  obtain ⟨rfl, rfl⟩ := trodVars_none hV
  obtain ⟨a0, n0, c0, rfl⟩ := okWide_slice Try.underlying22 (hval 0 22 v0 rfl rfl)
  obtain ⟨a1, n1, c1, rfl⟩ := okWide_slice Try.underlying23 (hval 1 23 v1 rfl rfl)
  obtain ⟨a3, n3, c3, rfl⟩ := okWide_slice Try.underlying25 (hval 3 25 v3 rfl rfl)
  have lt0 : ∀ x ∈ p0, x.block < W.heap.size := by obtain ⟨m, hm⟩ := h0; exact DataW.trod_lt m _ _ _ hm
  have lt1 : ∀ x ∈ p1, x.block < W.heap.size := by obtain ⟨m, hm⟩ := h1; exact DataW.trod_lt m _ _ _ hm
  have lt3 : ∀ x ∈ p3, x.block < W.heap.size := by obtain ⟨m, hm⟩ := h3; exact DataW.trod_lt m _ _ _ hm
  obtain ⟨m0, T, ht⟩ := open_tags h0
  obtain ⟨m1, F, hv, hF⟩ := open_vals h1
  have hs := open_byts h3
  obtain ⟨t, rfl, rfl, rfl, w2⟩ := open_int Try.underlying24 (hval 2 24 v2 rfl rfl) h2
  obtain ⟨y, rfl, rfl, rfl, w4⟩ := open_int Try.underlying24 (hval 4 24 v4 rfl rfl) h4
  clear hA0 hval0
  refine (walk a0 a1 a3 n0 c0 n1 c1 n3 c3 t y T F W m0 m1 ht hv hF hs).mono fun e W' ⟨he, bel⟩ => ?_
  subst he
  exact ⟨_, rfl, _, _, _, [], _, [], hW', trodAll_mk1 (shut_bool Try.underlying4 _),
    (trodAll_cons_mk (Below.trod laidOut (by kernel_rfl) (of_decide_eq_true (by kernel_rfl)) h0 bel lt0)
      (trodAll_cons_mk (Below.trod laidOut (by kernel_rfl) (of_decide_eq_true (by kernel_rfl)) h1 bel lt1)
        (trodAll_cons_mk (shut_int Try.underlying24 w2)
          (trodAll_cons_mk (Below.trod laidOut (by kernel_rfl) (of_decide_eq_true (by kernel_rfl)) h3 bel lt3)
            (trodAll_cons_mk (shut_int Try.underlying24 w4) trodAll_mk0))))), rfl, bel.frame _, fun h => by cases h⟩

theorem over : Rows.fnParamFirstOfTagWinsRow.holds Try.pinned (OpenSpec.ofChange Rows.fnParamFirstOfTagWinsSpec) :=
  OpenClaim.holds_of_wide 3 Try.f3 rfl rfl rfl rfl rfl rfl rfl ⟨rfl, rfl, rfl, rfl, rfl⟩ rfl rfl rfl rfl rfl (by kernel_rfl) Try.func3 (by kernel_rfl)
    (of_decide_eq_true (by kernel_rfl)) (by unfold Func.isWrapper; first | (rw [if_pos (by decide +kernel)]; kernel_rfl) | (rw [if_neg (by decide +kernel)]; exact ⟨rfl, rfl⟩))
    (fun os started H enc _ => lifted os started H enc)

/-- THE STATEMENT -/
theorem proved : Rows.FnParamFirstOfTagWinsSaid := over
#print axioms proved
end Go.Proofs.Qxb6632327a.fnParamFirstOfTagWins
