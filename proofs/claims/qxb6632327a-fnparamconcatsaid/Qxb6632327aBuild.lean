/-
  buildParams (7).
-/
import Derived.Test.Qxb6632327aSmall
namespace Go.Proofs.Qxb6632327a
open Go.RowKit

/-- Block g is a row of m parameters, the first n of which hold T, V. -/
def Row (w : World) (g m n : Nat) (T : Nat → Int) (V : Nat → SV) : Prop :=
  ∃ cur : Array Value, w.heap[g]? = some (.cells cur 32 (0, 0)) ∧ cur.size = m * 2 ∧ n ≤ m ∧ (∀ j, j < n → cur[j * 2]? = some (.int .u16 (T j)) ∧ cur[j * 2 + 1]? = some (.slice (V j).a (V j).n (V j).c))

theorem Try.info32 : (Try.prog.info? 32).map (fun i => (i.zero, i.size, i.bytes)) = some (some (.agg #[.int .u16 0, .slice none 0 0]), 2, 32) := by kernel_rfl

theorem run_make (n : Nat) (w : World) (hn : n ≤ 2000000) : ∃ w1, (Instr.makeSlice 28 (.int .i64 (n : Int)) (.int .i64 (n : Int))).run Try.prog w = .ok (.slice (some ⟨w.heap.size, 0, none⟩) n n) w1 ∧
    (∀ T V, Row w1 w.heap.size n 0 T V) ∧ Below w.heap.size w w1 := by
  obtain ⟨i0, hi, hz0, hz1, hz2⟩ := info_parts Try.info32
  obtain ⟨w1, hr, ho, hg⟩ := run_make_full (P := Try.prog) w w.heap.size 28 32 i0 (.agg #[.int .u16 0, .slice none 0 0]) 2 Try.underlying28 hi hz0 hz1 .i64 .i64 n (by rw [hz2]; omega) (by unfold maxLen; omega) (Nat.le_refl _)
  refine ⟨w1, hr, fun T V => ?_, (Below.refl _ w).grown hg (Nat.le_refl _) (fun k h => by cases h)⟩
  obtain ⟨hl, ⟨h, _⟩ | ⟨g, cap, cur, hv, _, hh, hnc, _, hcs, hct⟩⟩ := ho
  · simp at h
  · simp at hv
    obtain ⟨rfl, rfl⟩ := hv
    exact ⟨cur, hh, by omega, Nat.zero_le _, fun j hj => by omega⟩

theorem Row.has {w : World} {g m n : Nat} {T : Nat → Int} {V : Nat → SV} (h : Row w g m n T V) (j : Nat) (hj : j < m * 2) : ∃ u, w.cell? ⟨g, j, none⟩ = some u := by
  obtain ⟨cur, hg, hs, _, _⟩ := h
  refine ⟨cur[j]'(by omega), ?_⟩
  simp [World.cell?, hg, hs, hj]

theorem Row.free {w : World} {g m n : Nat} {T : Nat → Int} {V : Nat → SV} (h : Row w g m n T V) (j : Nat) : w.frozen? ⟨g, j, none⟩ = false := by
  obtain ⟨cur, hg, _, _, _⟩ := h
  simp [World.frozen?, hg]

theorem Row.lt {w : World} {g m n : Nat} {T : Nat → Int} {V : Nat → SV} (h : Row w g m n T V) : g < w.heap.size := by
  obtain ⟨cur, hg, _, _, _⟩ := h
  exact (Array.getElem?_eq_some_iff.1 hg).1

theorem Row.kept {w w' : World} {g m n B : Nat} {T : Nat → Int} {V : Nat → SV} (h : Row w g m n T V) (hb : Below B w w') (hg : g < B) : Row w' g m n T V := by
  obtain ⟨cur, h1, h2, h3⟩ := h
  exact ⟨cur, by rw [hb.block g hg]; exact h1, h2, h3⟩

theorem Row.cell0 {w : World} {g m n : Nat} {T : Nat → Int} {V : Nat → SV} (h : Row w g m n T V) (j : Nat) (hj : j < n) : w.cell? ⟨g, j * 2, none⟩ = some (.int .u16 (T j)) := by
  obtain ⟨cur, hg, _, _, hc⟩ := h
  simp [World.cell?, hg, (hc j hj).1]

theorem Row.cell1 {w : World} {g m n : Nat} {T : Nat → Int} {V : Nat → SV} (h : Row w g m n T V) (j : Nat) (hj : j < n) : w.cell? ⟨g, j * 2 + 1, none⟩ = some (.slice (V j).a (V j).n (V j).c) := by
  obtain ⟨cur, hg, _, _, hc⟩ := h
  simp [World.cell?, hg, (hc j hj).2]

theorem setCell_block {w : World} {g : Nat} {cur : Array Value} {t : TypeId} (h : w.heap[g]? = some (.cells cur t (0, 0))) (k : Nat) (v : Value) : (w.setCell ⟨g, k, none⟩ v).heap[g]? = some (.cells (cur.setIfInBounds k v) t (0, 0)) := by
  simp [World.setCell, Array.getElem?_modify, h]

theorem Row.put {w : World} {g m k : Nat} {T : Nat → Int} {V : Nat → SV} (hr : Row w g m k T V) (hk : k < m) {t : Int} {s : SV} (ht : t = T k) (hs : s = V k) :
    Row ((w.setCell ⟨g, k * 2, none⟩ (.int .u16 t)).setCell ⟨g, k * 2 + 1, none⟩ (.slice s.a s.n s.c)) g m (k + 1) T V := by
  subst ht; subst hs
  obtain ⟨cur, h1, h2, h3, h4⟩ := hr
  refine ⟨_, setCell_block (setCell_block h1 _ _) _ _, by simp [h2], by omega, fun j hj => ?_⟩
  simp only [Array.getElem?_setIfInBounds, Array.size_setIfInBounds]
  by_cases e : j = k
  · subst e
    simp [h2]
    omega
  · have := h4 j (by omega)
    refine ⟨?_, ?_⟩
    · rw [if_neg (by omega), if_neg (by omega)]; exact this.1
    · rw [if_neg (by omega), if_neg (by omega)]; exact this.2

/-- The values beside the tags: the given ones, nil behind them. -/
def beside (F : Nat → SV) (m : Nat) : Nat → SV := fun j => if j < m then F j else nilSV

set_option maxHeartbeats 1000000 in
theorem build_any (a1 a2 : Option Addr) (n1 c1 n2 c2 : Nat) (T : Nat → Int) (F : Nat → SV) (w : World) (h1 : n1 ≤ 65536) (h2 : n2 ≤ 65536) (ht : Tags w a1 n1 T) (hv : Vals w a2 n2 F) :
    Calls Try.prog 7 #[.slice a1 n1 c1, .slice a2 n2 c2] w fun e w' => e = .returned (.slice (some ⟨w.heap.size, 0, none⟩) n1 n1) ∧ Row w' w.heap.size n1 n1 T (beside F n2) ∧ Below w.heap.size w w' := by
  obtain ⟨w1, hmk, hr1, hb1⟩ := run_make n1 w (by omega)
  have hr0 := hr1 T (beside F n2)
  clear hr1
  go_enter Try.func7, Try.ntmps7
  go_wp2_with fail
  go_loopw [6] (fun j wr => ∃ k : Nat, k ≤ n1 ∧ j = .int .i64 k ∧ Row wr w.heap.size n1 k T (beside F n2) ∧ Below w.heap.size w wr) (fun j _ => n1 - (intOf j).toNat)
  case atStart => exact ⟨0, Nat.zero_le _, rfl, hr0, hb1⟩
  case round =>
    obtain ⟨k, hk, rfl, hrow, hbel⟩ := hrel
    by_cases hlt : k < n1
    · obtain ⟨b, off, rfl, hc⟩ := ht (by omega)
      have hcell : wr.cell? ⟨b, off + k, none⟩ = some (.int .u16 (T k)) := by
        have h := hc k (by omega)
        rw [hbel.cell (p := ⟨b, off + k, none⟩) (World.block_lt_of_cell? w _ h)]
        exact h
      obtain ⟨u0, hu0⟩ := hrow.has (k * 2) (by omega)
      obtain ⟨u1, hu1⟩ := hrow.has (k * 2 + 1) (by omega)
      have hf0 := hrow.free (k * 2)
      have hf1 := hrow.free (k * 2 + 1)
      by_cases hlt2 : k < n2
      · obtain ⟨b2, off2, rfl, hc2⟩ := hv (by omega)
        have hcell2 : wr.cell? ⟨b2, off2 + k, none⟩ = some (.slice (F k).a (F k).n (F k).c) := by
          have h := hc2 k (by omega)
          rw [hbel.cell (p := ⟨b2, off2 + k, none⟩) (World.block_lt_of_cell? w _ h)]
          exact h
        go_wp2_with fail
        go_roundw
        case rel => exact ⟨k + 1, by omega, by go_num, hrow.put hlt rfl (by simp [beside, hlt2]), (hbel.setCell (Nat.le_refl _) _).setCell (Nat.le_refl _) _⟩
        case measure => simp [intOf]; omega
      · go_wp2_with fail
        go_roundw
        case rel => exact ⟨k + 1, by omega, by go_num, hrow.put (s := nilSV) hlt rfl (by simp [beside, hlt2]), (hbel.setCell (Nat.le_refl _) _).setCell (Nat.le_refl _) _⟩
        case measure => simp [intOf]; omega
    · obtain rfl : k = n1 := by omega
      go_wp2_with fail
      go_ret
      exact ⟨rfl, hrow, hbel⟩

end Go.Proofs.Qxb6632327a
