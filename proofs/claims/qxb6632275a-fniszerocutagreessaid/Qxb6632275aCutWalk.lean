/-
  The walk of FnIsZeroCutAgrees (function 3).
-/
import Derived.Test.Qxb6632275aMem
import Derived.Outline
namespace Go.Proofs.Qxb6632275a
open Go.RowKit

set_option maxHeartbeats 1000000 in
theorem cut_main (x : Addr) (n c k : Nat) (f : Nat → Int) (w : World) (hn : n ≤ 1048576) (hk : k ≤ n) (hf : ∀ j, 0 ≤ f j ∧ f j ≤ 255) (hs : Seg w (some x) n f) :
    Calls Try.prog 3 #[.slice (some x) n c, .int .i64 (k : Int)] w fun e w' => e = .returned (.bool true) ∧ Below w.heap.size w w' := by
  have hne := fun w => run_neq_slice_nil_any (P := Try.prog) w 22 5 (some x) n c 0 0 Try.underlying22
  simp only [Option.isNone_some, Bool.not_false] at hne
  obtain ⟨w1, hmk, hr1, hb1⟩ := run_make n w (by omega)
  have hs1 : Seg w1 (some x) n f := fun h => by
    obtain ⟨b, off, e, hc⟩ := hs h
    refine ⟨b, off, e, fun j hj => ?_⟩
    have hlt := World.block_lt_of_cell? w _ (hc j hj)
    rw [hb1.cell (p := ⟨b, off + j, none⟩) hlt]
    exact hc j hj
  obtain ⟨w2, hcp, hr2, hb2⟩ := run_copy w.heap.size n _ f n c (some x) w1 hr1 hs1 rfl
  obtain ⟨w3, hmk3, hr3, hb3⟩ := run_make n w2 (by omega)
  have hz : allZ (fun _ => 0) n = true := allZ_zero n
  have hb : Below w.heap.size w w3 := (hb1.trans hb2).trans (hb3.mono (Nat.le_trans hb1.size hb2.size))
  have e1 : allZ f n = (allZ f k && allZ (fun j => f (k + j)) (n - k)) := by
    have := allZ_split f k (n - k)
    rw [show k + (n - k) = n from by omega] at this
    exact this
  have hr3' := hr3.seg0 n (Nat.le_refl n)
  have E1 : Hid (allZ f n = (allZ f k && allZ (fun j => f (k + j)) (n - k))) := e1
  clear hs hs1 hr1 e1
  by_cases hnk : n = k
  · subst hnk
    clear E1
    cases hL : allZ f n
    all_goals
      go_enter Try.func3, Try.ntmps3
      go_wp2_with fail
      refine (size5_yes _ _ _ _ _ hn).mono ?_
      rintro e w' ⟨rfl, rfl⟩
      go_wp2_with fail
      refine (ZZisZero_any _ n _ f _ (by omega) hf (hr2.seg0 n (Nat.le_refl n))).mono ?_
      rintro e w' ⟨rfl, rfl⟩
      go_wp2_with fail
      refine (ZZisZero_any _ n _ f _ (by omega) hf (hr2.seg0 n hk)).mono ?_
      rintro e w' ⟨rfl, rfl⟩
      go_wp2_with fail
      refine (ZZisZero_any _ 0 _ f _ (by omega) hf (hr2.seg0 0 (by omega))).mono ?_
      rintro e w' ⟨rfl, rfl⟩
      go_wp2_with fail
      refine (ZZisZero_any _ n _ (fun _ => 0) _ (by omega) (fun _ => by omega) hr3').mono ?_
      rintro e w' ⟨rfl, rfl⟩
      go_wp2_with fail
      go_ret
      exact ⟨rfl, hb⟩
  · cases hL : allZ f k
    all_goals
      cases hR : allZ (fun j => f (k + j)) (n - k)
    all_goals
      rw [hL, hR] at E1
      have hW := E1.out
      simp only [Bool.and_true, Bool.and_false] at hW
      clear E1
      go_enter Try.func3, Try.ntmps3
      go_wp2_with fail
      refine (size5_yes _ _ _ _ _ hn).mono ?_
      rintro e w' ⟨rfl, rfl⟩
      go_wp2_with fail
      refine (ZZisZero_any _ n _ f _ (by omega) hf (hr2.seg0 n (Nat.le_refl n))).mono ?_
      rintro e w' ⟨rfl, rfl⟩
      go_wp2_with fail
      refine (ZZisZero_any _ k _ f _ (by omega) hf (hr2.seg0 k hk)).mono ?_
      rintro e w' ⟨rfl, rfl⟩
      go_wp2_with fail
      refine (ZZisZero_any _ (n - k) _ (fun j => f (k + j)) _ (by omega) (fun j => hf _) (hr2.seg k (n - k) (by omega))).mono ?_
      rintro e w' ⟨rfl, rfl⟩
      go_wp2_with fail
      refine (ZZisZero_any _ n _ (fun _ => 0) _ (by omega) (fun _ => by omega) hr3').mono ?_
      rintro e w' ⟨rfl, rfl⟩
      go_wp2_with fail
      go_ret
      exact ⟨rfl, hb⟩

theorem cut_big (a : Option Addr) (n c : Nat) (k : Int) (w : World) (hn : ¬ n ≤ 1048576) (hm : n ≤ maxLen) :
    Calls Try.prog 3 #[.slice a n c, .int .i64 k] w fun e w' => e = .returned (.bool true) ∧ Below w.heap.size w w' := by
  go_enter Try.func3, Try.ntmps3
  go_wp2_with fail
  refine (size5_no _ _ _ _ _ hn hm).mono ?_
  rintro e w' ⟨rfl, rfl⟩
  go_wp2_with fail
  go_ret
  exact ⟨rfl, Below.refl _ _⟩

theorem cut_out (a : Option Addr) (n c : Nat) (k : Int) (w : World) (hn : n ≤ 1048576) (hk : k < 0 ∨ (n : Int) < k) :
    Calls Try.prog 3 #[.slice a n c, .int .i64 k] w fun e w' => e = .returned (.bool true) ∧ Below w.heap.size w w' := by
  rcases hk with hk | hk
  · go_enter Try.func3, Try.ntmps3
    go_wp2_with fail
    refine (size5_yes _ _ _ _ _ hn).mono ?_
    rintro e w' ⟨rfl, rfl⟩
    go_wp2_with fail
    go_ret
    exact ⟨rfl, Below.refl _ _⟩
  · have h0 : ¬ k < 0 := by omega
    go_enter Try.func3, Try.ntmps3
    go_wp2_with fail
    refine (size5_yes _ _ _ _ _ hn).mono ?_
    rintro e w' ⟨rfl, rfl⟩
    go_wp2_with fail
    go_ret
    exact ⟨rfl, Below.refl _ _⟩

set_option maxHeartbeats 1000000 in
theorem cut_nil (w : World) :
    Calls Try.prog 3 #[.slice none 0 0, .int .i64 0] w fun e w' => e = .returned (.bool true) ∧ Below w.heap.size w w' := by
  have hne := fun w => run_neq_slice_nil_any (P := Try.prog) w 22 5 none 0 0 0 0 Try.underlying22
  simp only [Option.isNone_none, Bool.not_true] at hne
  obtain ⟨w3, hmk3, hr3, hb⟩ := run_make 0 w (by omega)
  have hmk4 : (Instr.makeSlice 22 (.int .i64 0) (.int .i64 0)).run Try.prog w = .ok (.slice (some ⟨w.heap.size, 0, none⟩) 0 0) w3 := hmk3
  have hz : allZ (fun _ => 0) 0 = true := rfl
  clear hmk3
  have hsn : Seg w none 0 (fun _ => 0) := fun h => by omega
  go_enter Try.func3, Try.ntmps3
  go_wp2_with fail
  refine (size5_yes _ _ _ _ _ (by omega)).mono ?_
  rintro e w' ⟨rfl, rfl⟩
  go_wp2_with fail
  refine (ZZisZero_any _ 0 _ (fun _ => 0) _ (by omega) (fun _ => by omega) hsn).mono ?_
  rintro e w' ⟨rfl, rfl⟩
  go_wp2_with fail
  refine (ZZisZero_any _ 0 _ (fun _ => 0) _ (by omega) (fun _ => by omega) hsn).mono ?_
  rintro e w' ⟨rfl, rfl⟩
  go_wp2_with fail
  refine (ZZisZero_any _ 0 _ (fun _ => 0) _ (by omega) (fun _ => by omega) hsn).mono ?_
  rintro e w' ⟨rfl, rfl⟩
  go_wp2_with fail
  refine (ZZisZero_any _ 0 _ (fun _ => 0) _ (by omega) (fun _ => by omega) (hr3.seg0 0 (Nat.le_refl _))).mono ?_
  rintro e w' ⟨rfl, rfl⟩
  go_wp2_with fail
  go_ret
  exact ⟨rfl, hb⟩

end Go.Proofs.Qxb6632275a
