/-
  The arguments of this seat's laws, opened: from what the row's reading says to what the walks ask.
-/
import Derived.Test.Qxb6632327aFirst
import Derived.ProofKit
import Derived.OpenShut
import Derived.ShutString
import Derived.ChangeOld
import Derived.Below
import Derived.Deep.Matrix
namespace Go.Proofs.Qxb6632327a
open Go.ChangeShapes Go.WideShapes Go.ChangeAt Go.RowKit

theorem own : ownKnob Try.prog.godebug = none := by kernel_rfl
theorem laidOut : laidOutB Try.prog = true := by kernel_rfl
theorem Try.cells24 : Try.prog.cellsOf 24 = 1 := by kernel_rfl
theorem Try.cells25 : Try.prog.cellsOf 25 = 1 := by kernel_rfl
theorem Try.cells5 : Try.prog.cellsOf 5 = 1 := by kernel_rfl

theorem plain_of {w : World} {x : Addr} {v : Value} (h : w.cell? (x.add 0) = some v) : ∃ b off, x = ⟨b, off, none⟩ := by
  obtain ⟨b, off, spot⟩ := x
  have hspot : spot = none := by simpa [Addr.add] using World.cell?_spot h
  subst hspot
  exact ⟨b, off, rfl⟩

theorem open_tags {H : Type} {enc : TypeId × Value → H} {W : World} {a : Option Addr} {n c : Nat} {d : DataW H} {p : List MemPlace} (h : DataW.Trod enc Try.prog W 0 (fun _ => true) true 22 (.slice a n c) d p) :
    n ≤ maxLen ∧ ∃ T, Tags W a n T := by
  obtain ⟨fuel, hf⟩ := h
  rcases open_ints Try.underlying22 Try.underlying24 Try.cells24 hf with ⟨hcs, _⟩ | ⟨x, l, cp, zs, hcs, _, hl, hm, hz, _, hcell, hwz⟩
  · simp [Value.cells] at hcs
    obtain ⟨rfl, rfl, rfl⟩ := hcs
    exact ⟨Nat.zero_le _, fun _ => 0, fun h => by omega⟩
  · simp [Value.cells] at hcs
    obtain ⟨rfl, rfl, rfl⟩ := hcs
    simp only [if_true] at hz
    refine ⟨by omega, fun j => zs.getD j 0, fun h => ?_⟩
    obtain ⟨b, off, rfl⟩ := plain_of (hcell 0 (by omega))
    exact ⟨b, off, rfl, fun j hj => by rw [← add_plain]; exact hcell j (by omega)⟩

theorem open_byts {H : Type} {enc : TypeId × Value → H} {W : World} {a : Option Addr} {n c : Nat} {d : DataW H} {p : List MemPlace} (h : DataW.Trod enc Try.prog W 0 (fun _ => true) true 25 (.slice a n c) d p) :
    Byts W ⟨a, n, c⟩ := by
  obtain ⟨fuel, hf⟩ := h
  rcases open_ints Try.underlying25 Try.underlying5 Try.cells5 hf with ⟨hcs, _⟩ | ⟨x, l, cp, zs, hcs, _, hl, hm, hz, _, hcell, hwz⟩
  · simp [Value.cells] at hcs
    obtain ⟨rfl, rfl, rfl⟩ := hcs
    exact ⟨Nat.zero_le _, fun h => absurd h (by simp)⟩
  · simp [Value.cells] at hcs
    obtain ⟨rfl, rfl, rfl⟩ := hcs
    simp only [if_true] at hz
    refine ⟨show n ≤ maxLen by omega, fun h => ?_⟩
    have h' : 0 < n := h
    obtain ⟨b, off, rfl⟩ := plain_of (hcell 0 (by omega))
    refine ⟨b, off, fun j => zs.getD j 0, rfl, fun j hj => ?_⟩
    have hj' : j < n := hj
    rw [← add_plain]; exact hcell j (by omega)

theorem open_vals {H : Type} {enc : TypeId × Value → H} {W : World} {a : Option Addr} {n c : Nat} {d : DataW H} {p : List MemPlace} (h : DataW.Trod enc Try.prog W 0 (fun _ => true) true 23 (.slice a n c) d p) :
    n ≤ maxLen ∧ ∃ F, Vals W a n F ∧ ∀ j, j < n → Byts W (F j) := by
  obtain ⟨fuel, hf⟩ := h
  rcases Deep.open_int_rows Try.underlying23 Try.underlying25 Try.underlying5 Try.cells25 Try.cells5 hf with ⟨hcs, _⟩ | ⟨x, l, cp, A, L, C, Z, hcs, _, hl, hm, _, hr⟩
  · simp [Value.cells] at hcs
    obtain ⟨rfl, rfl, rfl⟩ := hcs
    exact ⟨Nat.zero_le _, fun _ => nilSV, fun h => by omega, fun j hj => by omega⟩
  · simp [Value.cells] at hcs
    obtain ⟨rfl, rfl, rfl⟩ := hcs
    refine ⟨by omega, fun j => ⟨A j, L j, C j⟩, fun h => ?_, fun j hj => ?_⟩
    · obtain ⟨b, off, rfl⟩ := plain_of (hr 0 (by omega)).1
      exact ⟨b, off, rfl, fun j hj => by rw [← add_plain]; exact (hr j (by omega)).1⟩
    · obtain ⟨_, h1, h2, h3, h4, h5, h6⟩ := hr j (by omega)
      refine ⟨show L j ≤ maxLen by omega, fun h => ?_⟩
      have h' : 0 < L j := h
      cases hA : A j with
      | none => have := h5 hA; omega
      | some a' =>
        obtain ⟨_, h7⟩ := h6 a' hA
        obtain ⟨b, off, rfl⟩ := plain_of (h7 0 (by omega))
        refine ⟨b, off, fun i => (Z j).getD i 0, hA, fun i hi => ?_⟩
        have hi' : i < L j := hi
        rw [← add_plain]; exact h7 i (by omega)

end Go.Proofs.Qxb6632327a
