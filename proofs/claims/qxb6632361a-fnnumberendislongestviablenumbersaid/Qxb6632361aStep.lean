/-
  zzNumStep (11), zzNumAccepting (12).
-/
import Derived.Test.Qxb6632361aDigits
namespace Go.Proofs.Qxb6632361a
open Go.RowKit

/-- A state of the automaton. -/
def Live (s : Int) : Prop := s = 0 ∨ s = 1 ∨ s = 2 ∨ s = 3 ∨ s = 4 ∨ s = 5 ∨ s = 6 ∨ s = 7 ∨ s = 8

theorem stp_live (s b : Int) (h : ¬ stp s b < 0) : Live (stp s b) := by
  revert h
  unfold stp Live
  repeat' split
  all_goals (intro h; omega)

set_option maxHeartbeats 8000000 in
theorem step_lit (s b : Int) (w : World) (hs : Live s) (hb : b = 43 ∨ b = 45 ∨ b = 46 ∨ b = 48 ∨ b = 69 ∨ b = 101) :
    Calls Try.prog 11 #[.int .i64 s, .int .u8 b] w fun e w' => e = .returned (.int .i64 (stp s b)) ∧ w = w' := by
  rcases hs with rfl | rfl | rfl | rfl | rfl | rfl | rfl | rfl | rfl
  all_goals
    rcases hb with rfl | rfl | rfl | rfl | rfl | rfl
  all_goals
    go_enter Try.func11, Try.ntmps11
    go_wp2
    go_ret
    exact ⟨ret_int (by decide), rfl⟩

set_option maxHeartbeats 8000000 in
theorem step_dig (s b : Int) (w : World) (hs : Live s) (h1 : 49 ≤ b) (h2 : b ≤ 57) :
    Calls Try.prog 11 #[.int .i64 s, .int .u8 b] w fun e w' => e = .returned (.int .i64 (stp s b)) ∧ w = w' := by
  have hd : Hid (dig b = true) := dig_yes (by omega) h2
  have e1 : (b == 45) = false := beq_eq_false_iff_ne.2 (by omega)
  have e2 : (b == 48) = false := beq_eq_false_iff_ne.2 (by omega)
  have e3 : (b == 46) = false := beq_eq_false_iff_ne.2 (by omega)
  have e4 : (b == 101) = false := beq_eq_false_iff_ne.2 (by omega)
  have e5 : (b == 69) = false := beq_eq_false_iff_ne.2 (by omega)
  have e6 : (b == 43) = false := beq_eq_false_iff_ne.2 (by omega)
  have h48 : 48 ≤ b := by omega
  have n1 : ¬ b = 45 := by omega
  have n2 : ¬ b = 48 := by omega
  have n3 : ¬ b = 46 := by omega
  have n4 : ¬ b = 101 := by omega
  have n5 : ¬ b = 69 := by omega
  have n6 : ¬ b = 43 := by omega
  have HN : Hid (¬ b = 45 ∧ ¬ b = 48 ∧ ¬ b = 46 ∧ ¬ b = 101 ∧ ¬ b = 69 ∧ ¬ b = 43) := ⟨n1, n2, n3, n4, n5, n6⟩
  clear n1 n2 n3 n4 n5 n6
  rcases hs with rfl | rfl | rfl | rfl | rfl | rfl | rfl | rfl | rfl
  all_goals
    go_enter Try.func11, Try.ntmps11
    go_wp2
    go_ret
    exact ⟨ret_int (by obtain ⟨n1, n2, n3, n4, n5, n6⟩ := HN.out; simp [stp, hd.out, n1, n2, n3, n4, n5, n6]), rfl⟩

end Go.Proofs.Qxb6632361a
