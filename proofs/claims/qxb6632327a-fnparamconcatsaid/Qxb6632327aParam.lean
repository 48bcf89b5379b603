/-
  (*Message).Param (8).
-/
import Derived.Test.Qxb6632327aBuild
namespace Go.Proofs.Qxb6632327a
open Go.RowKit

set_option maxHeartbeats 1000000 in
theorem param_any (p g m n c : Nat) (q : Int) (T : Nat → Int) (V : Nat → SV) (w : World) (hn : n ≤ 1048576) (hp : w.cell? ⟨p, 12, none⟩ = some (.slice (some ⟨g, 0, none⟩) n c)) (hr : Row w g m n T V) :
    Calls Try.prog 8 #[.pointer (some ⟨p, 0, none⟩), .int .u16 q] w fun e w' => e = .returned (.tuple #[.slice (look T V q n).1.a (look T V q n).1.n (look T V q n).1.c, .bool (look T V q n).2]) ∧ Below w.heap.size w w' := by
  go_enter Try.func8, Try.ntmps8
  go_wp2_with fail
  go_loopw [13] (fun j wr => ∃ k : Nat, k ≤ n ∧ j = .int .i64 k ∧ Hid (has T q k = false) ∧ Below w.heap.size w wr) (fun j _ => n - (intOf j).toNat)
  case atStart => exact ⟨0, Nat.zero_le _, rfl, rfl, Below.refl _ _⟩
  case round =>
    obtain ⟨k, hk, rfl, hno, hbel⟩ := hrel
    by_cases hlt : k < n
    · have hrow := hr.kept hbel hr.lt
      have hc0 := hrow.cell0 k hlt
      have hc1 := hrow.cell1 k hlt
      cases heq : (T k == q)
      · go_wp2_with fail
        go_roundw
        case rel => exact ⟨k + 1, by omega, by go_num, show has T q (k + 1) = false by simp [has, hno.out, heq], hbel.alloc hbel.size _⟩
        case measure => simp [intOf]; omega
      · have hyes : has T q (k + 1) = true := by simp [has, heq]
        have hl : Hid (look T V q n = (V k, true)) := (look_mono hyes (show k + 1 ≤ n by omega)).trans (look_hit hno.out (by simpa using heq))
        clear hyes
        go_wp2_with fail
        go_ret2
        rw [hl.out]
        exact ⟨rfl, hbel.alloc hbel.size _⟩
    · obtain rfl : k = n := by omega
      have hl : Hid (look T V q k = (nilSV, false)) := look_none hno.out
      go_wp2_with fail
      go_ret2
      rw [hl.out]
      exact ⟨rfl, hbel⟩

/-- The same, its answer named. -/
theorem param_is (p g m n c : Nat) (q : Int) (T : Nat → Int) (V : Nat → SV) (r : SV) (f : Bool) (w : World) (hl : look T V q n = (r, f)) (hn : n ≤ 1048576) (hp : w.cell? ⟨p, 12, none⟩ = some (.slice (some ⟨g, 0, none⟩) n c)) (hr : Row w g m n T V) :
    Calls Try.prog 8 #[.pointer (some ⟨p, 0, none⟩), .int .u16 q] w fun e w' => e = .returned (.tuple #[.slice r.a r.n r.c, .bool f]) ∧ Below w.heap.size w w' := by
  have h := param_any p g m n c q T V w hn hp hr
  rw [hl] at h
  exact h

end Go.Proofs.Qxb6632327a
