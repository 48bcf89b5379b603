/-
  The contract of zzInsertByte (function 8).
-/
import Derived.Test.Qxb6632275aMem
import Derived.Outline
namespace Go.Proofs.Qxb6632275a
open Go.RowKit

/-- The row with v put in at place i. -/
def ins (f : Nat → Int) (i : Nat) (v : Int) : Nat → Int := fun j => if j < i then f j else if j = i then v else f (j - 1)
/-- .. its first k places filled, the rest zero. -/
def part (h : Nat → Int) (k : Nat) : Nat → Int := fun j => if j < k then h j else 0

theorem Row.congr {w : World} {g n : Nat} {f h : Nat → Int} (hr : Row w g n f) (e : ∀ j, j < n → f j = h j) : Row w g n h := by
  obtain ⟨cur, h1, h2, h3⟩ := hr
  exact ⟨cur, h1, h2, fun j hj => by rw [h3 j hj, e j hj]⟩

theorem Row.set {w : World} {g n : Nat} {f : Nat → Int} (hr : Row w g n f) (k : Nat) (x : Int) : Row (w.setCell ⟨g, k, none⟩ (.int .u8 x)) g n (fun j => if j = k then x else f j) := by
  obtain ⟨cur, h1, h2, h3⟩ := hr
  refine ⟨cur.setIfInBounds k (.int .u8 x), ?_, by simp [h2], fun j hj => ?_⟩
  · simp [World.setCell, Array.getElem?_modify, h1]
  · rw [Array.getElem?_setIfInBounds]
    by_cases e : k = j
    · subst e
      simp [h2, hj]
    · have e' : ¬ j = k := fun h => e h.symm
      simp only [if_neg e, h3 j hj, if_neg e']

theorem part_step {w : World} {g n k : Nat} {h : Nat → Int} (hr : Row w g n (part h k)) {x : Int} (hx : x = h k) : Row (w.setCell ⟨g, k, none⟩ (.int .u8 x)) g n (part h (k + 1)) := by
  subst hx
  refine (hr.set k (h k)).congr fun j _ => ?_
  unfold part
  by_cases e : j = k
  · subst e; simp
  · by_cases e2 : j < k
    · simp [e, e2, show j < k + 1 by omega]
    · simp [e, e2, show ¬ j < k + 1 by omega]

theorem ins_lt {f : Nat → Int} {i k : Nat} {v : Int} (h : k < i) : f k = ins f i v k := by simp [ins, h]
theorem ins_at {f : Nat → Int} {i : Nat} {v : Int} : v = ins f i v i := by simp [ins]
theorem ins_gt {f : Nat → Int} {i k : Nat} {v : Int} (h : i ≤ k) : f k = ins f i v (k + 1) := by
  simp [ins, show ¬ k + 1 < i by omega, show ¬ k + 1 = i by omega]

set_option maxHeartbeats 1000000 in
theorem insert_any (a : Option Addr) (n c i : Nat) (v : Int) (f : Nat → Int) (w : World) (hn : n ≤ 1048576) (hi : i ≤ n) (hs : Seg w a n f) :
    Calls Try.prog 8 #[.slice a n c, .int .i64 (i : Int), .int .u8 v] w fun e w' => e = .returned (.slice (some ⟨w.heap.size, 0, none⟩) (n + 1) (n + 1)) ∧ Row w' w.heap.size (n + 1) (ins f i v) ∧ Below w.heap.size w w' := by
  obtain ⟨w1, hmk, hr1, hb1⟩ := run_make (n + 1) w (by omega)
  rw [show ((n + 1 : Nat) : Int) = (n : Int) + 1 by omega] at hmk
  have hr0 : Row w1 w.heap.size (n + 1) (part (ins f i v) 0) := hr1.congr fun j _ => by simp [part]
  clear hr1
  go_enter Try.func8, Try.ntmps8
  go_wp2_with fail
  go_loopw [8] (fun j wr => ∃ k : Nat, k ≤ i ∧ j = .int .i64 k ∧ Row wr w.heap.size (n + 1) (part (ins f i v) k) ∧ Below w.heap.size w wr) (fun j _ => i - (intOf j).toNat)
  case atStart => exact ⟨0, Nat.zero_le _, rfl, hr0, hb1⟩
  case round =>
    obtain ⟨k, hk, rfl, hrow, hbel⟩ := hrel
    by_cases hlt : k < i
    · obtain ⟨b, off, rfl, hc⟩ := hs (by omega)
      have hcell : wr.cell? ⟨b, off + k, none⟩ = some (.int .u8 (f k)) := by
        have h := hc k (by omega)
        rw [hbel.cell (p := ⟨b, off + k, none⟩) (World.block_lt_of_cell? w _ h)]
        exact h
      have hold := hrow.cell k (by omega)
      have hfree := hrow.free k
      go_wp2_with fail
      go_roundw
      case rel => exact ⟨k + 1, by omega, by go_num, part_step hrow (ins_lt hlt), hbel.setCell (Nat.le_refl _) _⟩
      case measure => simp [intOf]; omega
    · obtain rfl : k = i := by omega
      have hold := hrow.cell k (by omega)
      have hfree := hrow.free k
      have hrow2 : Row (wr.setCell ⟨w.heap.size, k, none⟩ (.int .u8 v)) w.heap.size (n + 1) (part (ins f k v) (k + 1)) := part_step hrow ins_at
      have hbel2 : Below w.heap.size w (wr.setCell ⟨w.heap.size, k, none⟩ (.int .u8 v)) := hbel.setCell (Nat.le_refl _) _
      go_wp2_with fail
      clear hold hfree
      go_loopw [9] (fun j wr => ∃ q : Nat, k ≤ q ∧ q ≤ n ∧ j = .int .i64 q ∧ Row wr w.heap.size (n + 1) (part (ins f k v) (q + 1)) ∧ Below w.heap.size w wr) (fun j _ => n - (intOf j).toNat)
      case atStart => exact ⟨k, Nat.le_refl _, hi, rfl, hrow2, hbel2⟩
      case round =>
        clear hrow hbel hrow2 hbel2
        obtain ⟨q, hkq, hq, rfl, hrow, hbel⟩ := hrel
        by_cases hlt2 : q < n
        · obtain ⟨b, off, rfl, hc⟩ := hs (by omega)
          have hcell : wr.cell? ⟨b, off + q, none⟩ = some (.int .u8 (f q)) := by
            have h := hc q (by omega)
            rw [hbel.cell (p := ⟨b, off + q, none⟩) (World.block_lt_of_cell? w _ h)]
            exact h
          have hold := hrow.cell (q + 1) (by omega)
          have hfree := hrow.free (q + 1)
          go_wp2_with fail
          go_roundw
          case rel => exact ⟨q + 1, by omega, by omega, by go_num, part_step hrow (ins_gt hkq), hbel.setCell (Nat.le_refl _) _⟩
          case measure => simp [intOf]; omega
        · obtain rfl : q = n := by omega
          go_wp2_with fail
          go_ret
          exact ⟨rfl, hrow.congr fun j hj => by simp [part, hj], hbel⟩

end Go.Proofs.Qxb6632275a
