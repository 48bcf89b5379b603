/-
  A row of bytes that the call makes ('make', 'copy').
-/
import Derived.Test.Qxb6632361aDigits
namespace Go.Proofs.Qxb6632361a
open Go.RowKit

/-- Block g is a row of n bytes that holds f. -/
def Row (w : World) (g n : Nat) (f : Nat → Int) : Prop :=
  ∃ cur : Array Value, w.heap[g]? = some (.cells cur 5 (0, 0)) ∧ cur.size = n ∧ ∀ j, j < n → cur[j]? = some (.int .u8 (f j))

theorem Row.seg {w : World} {g n : Nat} {f : Nat → Int} (h : Row w g n f) (k : Nat) (hk : k ≤ n) : Seg w g 0 k f := by
  obtain ⟨cur, hg, hs, hc⟩ := h
  intro j hj
  have := hc j (by omega)
  simp [World.cell?, hg, this]

theorem Row.cell {w : World} {g n : Nat} {f : Nat → Int} (h : Row w g n f) (j : Nat) (hj : j < n) : w.cell? ⟨g, j, none⟩ = some (.int .u8 (f j)) := by
  have := h.seg n (Nat.le_refl _) j hj
  rwa [Nat.zero_add] at this

theorem Try.info5 : (Try.prog.info? 5).map (fun i => (i.zero, i.size, i.bytes)) = some (some (.int .u8 0), 1, 1) := by kernel_rfl
theorem Try.size5 : (Try.prog.info? 5).map (·.size) = some 1 := by kernel_rfl

theorem run_make (n : Nat) (w : World) (hn : n ≤ 2000000) : ∃ w1, (Instr.makeSlice 22 (.int .i64 (n : Int)) (.int .i64 (n : Int))).run Try.prog w = .ok (.slice (some ⟨w.heap.size, 0, none⟩) n n) w1 ∧
    Row w1 w.heap.size n (fun _ => 0) ∧ Below w.heap.size w w1 := by
  obtain ⟨i0, hi, hz0, hz1, hz2⟩ := info_parts Try.info5
  obtain ⟨w1, hr, ho, hg⟩ := run_make_full (P := Try.prog) w w.heap.size 22 5 i0 (.int .u8 0) 1 Try.underlying22 hi hz0 hz1 .i64 .i64 n (by rw [hz2]; omega) (by unfold maxLen; omega) (Nat.le_refl _)
  refine ⟨w1, hr, ?_, (Below.refl _ w).grown hg (Nat.le_refl _) (fun k h => by cases h)⟩
  obtain ⟨hl, ⟨h, _⟩ | ⟨g, cap, cur, hv, _, hh, hnc, _, hcs, hct⟩⟩ := ho
  · simp at h
  · simp at hv
    obtain ⟨rfl, rfl⟩ := hv
    refine ⟨cur, hh, by omega, fun j hj => ?_⟩
    have e : (madeCells (Value.int IntKind.u8 0).cells (n * 1)).toList = List.replicate n (.int .u8 0) := by
      rw [Nat.mul_one]; exact toList_madeCells_one _ _
    rw [e] at hct
    have h2 : (cur.toList.take (n * 1))[j]? = (List.replicate n (Value.int .u8 0))[j]? := by rw [hct]
    rw [Nat.mul_one, List.getElem?_take_of_lt hj, List.getElem?_replicate, if_pos hj] at h2
    simpa using h2

theorem run_copy (g n : Nat) (f0 f : Nat → Int) (c1 c2 b off : Nat) (w : World) (hr : Row w g n f0) (hc : Seg w b off n f) :
    ∃ w1, (∀ ty, (Builtin.copy_ #[22, 22] ty #[.slice (some ⟨g, 0, none⟩) n c1, .slice (some ⟨b, off, none⟩) n c2]).run Try.prog w = .ok (goInt n) w1) ∧
    Row w1 g n f ∧ Below g w w1 := by
  obtain ⟨cur, h1, h2, h3⟩ := hr
  have hl : ((List.range n).map fun j => Value.int .u8 (f j)).length = n := by simp
  have hrun := fun ty => run_copy_row (P := Try.prog) w 22 22 ty 5 g 0 n c1 ⟨b, off, none⟩ n c2 cur 5 ((List.range n).map fun j => Value.int .u8 (f j)) Try.underlying22 Try.size5 h1 (by rw [hl]; exact (Nat.min_self n).symm)
    (by
      intro j v hj
      rw [List.getElem?_map] at hj
      by_cases hjn : j < n
      · rw [List.getElem?_range hjn] at hj
        simp at hj
        subst hj
        have := hc j hjn
        rw [WideShapes.add_plain]; exact this
      · rw [List.getElem?_eq_none (by simpa using hjn)] at hj
        simp at hj) (by rw [hl]; omega) (by intro v hv; simp at hv; obtain ⟨j, _, rfl⟩ := hv; rfl)
  rw [hl] at hrun
  refine ⟨_, hrun, ?_, ?_⟩
  · refine ⟨_, setRow_heap w g _ _ 5 _ h1, by simp; omega, fun j hj => ?_⟩
    simp only [List.take_zero, List.nil_append, List.getElem?_toArray]
    rw [List.getElem?_append_left (by simpa using hj)]
    simp [hj]
  · exact ⟨rfl, rfl, rfl, by simp [World.setRow], fun k hk => setRow_other w g k _ (by omega)⟩

theorem Seg.kept {w w' : World} {b off n : Nat} {f : Nat → Int} (h : Seg w b off n f) (hb : Below w.heap.size w w') : Seg w' b off n f := fun j hj => by
  rw [hb.cell (p := ⟨b, off + j, none⟩) (World.block_lt_of_cell? w _ (h j hj))]
  exact h j hj

end Go.Proofs.Qxb6632361a
