/-
  The walk of FnIsZeroInsertOneByte (function 4).
-/
import Derived.Test.Qxb6632275aInsert
namespace Go.Proofs.Qxb6632275a
open Go.RowKit

theorem allZ_iff (f : Nat → Int) : ∀ n, allZ f n = true ↔ ∀ j, j < n → f j = 0
  | 0 => by simp [allZ]
  | n + 1 => by
    have h := allZ_iff f n
    simp only [allZ, Bool.and_eq_true, beq_iff_eq]
    rw [h]
    constructor
    · rintro ⟨h1, h2⟩ j hj
      by_cases e : j = n
      · subst e; exact h2
      · exact h1 j (by omega)
    · intro h1
      exact ⟨fun j hj => h1 j (by omega), h1 n (by omega)⟩

theorem allZ_ins (f : Nat → Int) (i n : Nat) (v : Int) (hi : i ≤ n) : allZ (ins f i v) (n + 1) = ((v == 0) && allZ f n) := by
  rw [Bool.eq_iff_iff, Bool.and_eq_true, beq_iff_eq, allZ_iff, allZ_iff]
  constructor
  · intro h
    refine ⟨?_, fun j hj => ?_⟩
    · have := h i (by omega)
      rw [← ins_at] at this
      exact this
    · by_cases e : j < i
      · rw [ins_lt (f := f) (v := v) e]; exact h j (by omega)
      · rw [ins_gt (f := f) (v := v) (i := i) (by omega)]; exact h (j + 1) (by omega)
  · rintro ⟨h1, h2⟩ j hj
    unfold ins
    split
    · exact h2 j (by omega)
    · split
      · exact h1
      · exact h2 (j - 1) (by omega)

theorem ins_byte {f : Nat → Int} {i : Nat} {v : Int} (hf : ∀ j, 0 ≤ f j ∧ f j ≤ 255) (hv : 0 ≤ v ∧ v ≤ 255) (j : Nat) : 0 ≤ ins f i v j ∧ ins f i v j ≤ 255 := by
  unfold ins
  split
  · exact hf j
  · split
    · exact hv
    · exact hf _

theorem ins_big (a : Option Addr) (n c : Nat) (k v : Int) (w : World) (hn : ¬ n ≤ 1048576) (hm : n ≤ maxLen) :
    Calls Try.prog 4 #[.slice a n c, .int .i64 k, .int .u8 v] w fun e w' => e = .returned (.bool true) ∧ Below w.heap.size w w' := by
  go_enter Try.func4, Try.ntmps4
  go_wp2_with fail
  refine (size7_no _ _ _ _ _ _ hn hm).mono ?_
  rintro e w' ⟨rfl, rfl⟩
  go_wp2_with fail
  go_ret
  exact ⟨rfl, Below.refl _ _⟩

theorem ins_out (a : Option Addr) (n c : Nat) (k v : Int) (w : World) (hn : n ≤ 1048576) (hk : k < 0 ∨ (n : Int) < k) :
    Calls Try.prog 4 #[.slice a n c, .int .i64 k, .int .u8 v] w fun e w' => e = .returned (.bool true) ∧ Below w.heap.size w w' := by
  rcases hk with hk | hk
  · go_enter Try.func4, Try.ntmps4
    go_wp2_with fail
    refine (size7_yes _ _ _ _ _ _ hn).mono ?_
    rintro e w' ⟨rfl, rfl⟩
    go_wp2_with fail
    go_ret
    exact ⟨rfl, Below.refl _ _⟩
  · have h0 : ¬ k < 0 := by omega
    go_enter Try.func4, Try.ntmps4
    go_wp2_with fail
    refine (size7_yes _ _ _ _ _ _ hn).mono ?_
    rintro e w' ⟨rfl, rfl⟩
    go_wp2_with fail
    go_ret
    exact ⟨rfl, Below.refl _ _⟩

theorem ins_nil (v : Int) (w : World) (hv : 0 ≤ v ∧ v ≤ 255) :
    Calls Try.prog 4 #[.slice none 0 0, .int .i64 0, .int .u8 v] w fun e w' => e = .returned (.bool true) ∧ Below w.heap.size w w' := by
  have hne := fun w => run_neq_slice_nil_any (P := Try.prog) w 22 5 none 0 0 0 0 Try.underlying22
  simp only [Option.isNone_none, Bool.not_true] at hne
  have ez : allZ (ins (fun _ => 0) 0 v) 1 = ((v == 0) && true) := allZ_ins (fun _ => 0) 0 0 v (Nat.le_refl _)
  have e0 : allZ (fun _ => 0) 0 = true := rfl
  have hzf : ∀ j : Nat, 0 ≤ (fun _ => (0 : Int)) j ∧ (fun _ => (0 : Int)) j ≤ 255 := fun _ => by simp
  have hif := fun j => ins_byte (f := fun _ => 0) (i := 0) hzf hv j
  have hsn : ∀ w, Seg w none 0 (fun _ => 0) := fun w h => by omega
  cases hvb : (v == 0)
  all_goals
    rw [hvb] at ez
    simp only [Bool.and_self, Bool.and_true] at ez
    go_enter Try.func4, Try.ntmps4
    go_wp2_with fail
    refine (size7_yes _ _ _ _ _ _ (by omega)).mono ?_
    rintro e w' ⟨rfl, rfl⟩
    go_wp2_with fail
    refine (insert_any none 0 0 0 v (fun _ => 0) w (by omega) (Nat.le_refl _) (hsn w)).mono ?_
    rintro e w3 ⟨rfl, hr3, hb3⟩
    obtain ⟨w4, hmk4', hr4, hb4⟩ := run_make 0 w3 (by omega)
    have hmk4 : (Instr.makeSlice 22 (.int .i64 0) (.int .i64 0)).run Try.prog w3 = .ok (.slice (some ⟨w3.heap.size, 0, none⟩) 0 0) w4 := hmk4'
    clear hmk4'
    go_wp2_with fail
    refine (insert_any _ 0 0 0 v (fun _ => 0) w4 (by omega) (Nat.le_refl _) (hr4.seg0 0 (Nat.le_refl _))).mono ?_
    rintro e w5 ⟨rfl, hr5, hb5⟩
    have hc5 := (hr3.kept hb4 hr3.lt).kept hb5 (Nat.lt_of_lt_of_le hr3.lt hb4.size)
    have hbx : Below w.heap.size w w5 := (hb3.trans (hb4.mono hb3.size)).trans (hb5.mono (Nat.le_trans hb3.size hb4.size))
    clear hr3 hr4 hb3 hb4 hb5
    go_wp2_with fail
    refine (ZZisZero_any _ 1 _ (ins (fun _ => 0) 0 v) _ (by omega) hif (hc5.seg0 1 (by omega))).mono ?_
    rintro e w' ⟨rfl, rfl⟩
    go_wp2_with fail
    refine (ZZisZero_any _ 0 _ (fun _ => 0) _ (by omega) hzf (hsn _)).mono ?_
    rintro e w' ⟨rfl, rfl⟩
    go_wp2_with fail
    refine (ZZisZero_any _ 1 _ (ins (fun _ => 0) 0 v) _ (by omega) hif (hr5.seg0 1 (by omega))).mono ?_
    rintro e w' ⟨rfl, rfl⟩
    go_wp2_with fail
    go_ret
    exact ⟨rfl, hbx⟩

set_option maxHeartbeats 1000000 in
theorem ins_main (x : Addr) (n c i : Nat) (v : Int) (f : Nat → Int) (w : World) (hn : n ≤ 1048576) (hi : i ≤ n) (hv : 0 ≤ v ∧ v ≤ 255) (hf : ∀ j, 0 ≤ f j ∧ f j ≤ 255) (hs : Seg w (some x) n f) :
    Calls Try.prog 4 #[.slice (some x) n c, .int .i64 (i : Int), .int .u8 v] w fun e w' => e = .returned (.bool true) ∧ Below w.heap.size w w' := by
  have hne := fun w => run_neq_slice_nil_any (P := Try.prog) w 22 5 (some x) n c 0 0 Try.underlying22
  simp only [Option.isNone_some, Bool.not_false] at hne
  obtain ⟨w1, hmk, hr1, hb1⟩ := run_make n w (by omega)
  have hs1 : Seg w1 (some x) n f := fun h => by
    obtain ⟨b, off, e, hc⟩ := hs h
    refine ⟨b, off, e, fun j hj => ?_⟩
    have hlt := World.block_lt_of_cell? w _ (hc j hj)
    rw [hb1.cell (p := ⟨b, off + j, none⟩) hlt]
    exact hc j hj
  obtain ⟨w2, hcp, hr2, hb2⟩ := run_copy w.heap.size n _ f n c (some x) w1 hr1 hs1 rfl
  have hb02 : Below w.heap.size w w2 := hb1.trans hb2
  have ez : allZ (ins (fun _ => 0) i v) (n + 1) = ((v == 0) && true) := by rw [allZ_ins _ _ _ _ hi, allZ_zero]
  have ec : allZ (ins f i v) (n + 1) = ((v == 0) && allZ f n) := allZ_ins _ _ _ _ hi
  have hzf : ∀ j : Nat, 0 ≤ (fun _ => (0 : Int)) j ∧ (fun _ => (0 : Int)) j ≤ 255 := fun _ => by simp
  have hif := fun j => ins_byte (f := fun _ => 0) (i := i) hzf hv j
  have hcf := fun j => ins_byte (f := f) (i := i) hf hv j
  clear hs hs1 hr1 hb1 hb2
  cases hvb : (v == 0)
  all_goals cases hB : allZ f n
  all_goals
    rw [hvb] at ez ec
    rw [hB] at ec
    simp only [Bool.and_self, Bool.and_true, Bool.and_false] at ez ec
    go_enter Try.func4, Try.ntmps4
    go_wp2_with fail
    refine (size7_yes _ _ _ _ _ _ hn).mono ?_
    rintro e w' ⟨rfl, rfl⟩
    go_wp2_with fail
    refine (insert_any _ n _ i v f w2 hn hi (hr2.seg0 n (Nat.le_refl _))).mono ?_
    rintro e w3 ⟨rfl, hr3, hb3⟩
    obtain ⟨w4, hmk4, hr4, hb4⟩ := run_make n w3 (by omega)
    go_wp2_with fail
    refine (insert_any _ n _ i v (fun _ => 0) w4 hn hi (hr4.seg0 n (Nat.le_refl _))).mono ?_
    rintro e w5 ⟨rfl, hr5, hb5⟩
    have hc5 := (hr3.kept hb4 hr3.lt).kept hb5 (Nat.lt_of_lt_of_le hr3.lt hb4.size)
    have hb35 : Below w2.heap.size w2 w5 := (hb3.trans (hb4.mono hb3.size)).trans (hb5.mono (Nat.le_trans hb3.size hb4.size))
    have hd5 := hr2.kept hb35 hr2.lt
    have hbx : Below w.heap.size w w5 := hb02.trans (hb35.mono hb02.size)
    clear hr3 hr4 hb3 hb4 hb5 hb35
    go_wp2_with fail
    refine (ZZisZero_any _ (n + 1) _ (ins f i v) _ (by omega) hcf (hc5.seg0 (n + 1) (by omega))).mono ?_
    rintro e w' ⟨rfl, rfl⟩
    go_wp2_with fail
    refine (ZZisZero_any _ n _ f _ (by omega) hf (hd5.seg0 n (by omega))).mono ?_
    rintro e w' ⟨rfl, rfl⟩
    go_wp2_with fail
    refine (ZZisZero_any _ (n + 1) _ (ins (fun _ => 0) i v) _ (by omega) hif (hr5.seg0 (n + 1) (by omega))).mono ?_
    rintro e w' ⟨rfl, rfl⟩
    go_wp2_with fail
    go_ret
    exact ⟨rfl, hbx⟩

end Go.Proofs.Qxb6632275a
