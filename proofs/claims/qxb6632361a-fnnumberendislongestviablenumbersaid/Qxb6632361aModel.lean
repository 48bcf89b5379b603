/-
  zzNumStep (11) at the other bytes, zzNumAccepting (12), zzNumberModel (7), and the walk of FnNumberEndIsLongestViableNumber (3).
-/
import Derived.Test.Qxb6632361aStep
import Derived.Test.Qxb6632361aNumEnd
import Derived.Test.Qxb6632361aMem
namespace Go.Proofs.Qxb6632361a
open Go.RowKit

set_option maxHeartbeats 8000000 in
theorem step_else (s b : Int) (w : World) (hs : Live s) (hd0 : dig b = false) (n1 : ¬ b = 45) (n3 : ¬ b = 46) (n4 : ¬ b = 101) (n5 : ¬ b = 69) (n6 : ¬ b = 43) :
    Calls Try.prog 11 #[.int .i64 s, .int .u8 b] w fun e w' => e = .returned (.int .i64 (stp s b)) ∧ w = w' := by
  have hnd : ¬ (48 ≤ b ∧ b ≤ 57) := fun h => by rw [dig_iff.2 h] at hd0; exact absurd hd0 (by simp)
  have n2 : ¬ b = 48 := by omega
  have e1 : (b == 45) = false := beq_eq_false_iff_ne.2 n1
  have e2 : (b == 48) = false := beq_eq_false_iff_ne.2 n2
  have e3 : (b == 46) = false := beq_eq_false_iff_ne.2 n3
  have e4 : (b == 101) = false := beq_eq_false_iff_ne.2 n4
  have e5 : (b == 69) = false := beq_eq_false_iff_ne.2 n5
  have e6 : (b == 43) = false := beq_eq_false_iff_ne.2 n6
  have hv : stp s b = -1 := by
    unfold stp
    simp only [hd0, n1, n2, n3, n4, n5, n6, or_self, if_false, Bool.false_eq_true]
    repeat' split
    all_goals rfl
  have HV : Hid (stp s b = -1) := hv
  clear hv hd0 n1 n2 n3 n4 n5 n6
  by_cases h48 : 48 ≤ b
  · have h57 : ¬ b ≤ 57 := fun h => hnd ⟨h48, h⟩
    clear hnd
    rcases hs with rfl | rfl | rfl | rfl | rfl | rfl | rfl | rfl | rfl
    all_goals
      go_enter Try.func11, Try.ntmps11
      go_wp2
      go_ret
      exact ⟨ret_int HV.out.symm, rfl⟩
  · have hd1 : decide (48 ≤ b) = false := by simpa using h48
    clear hnd
    rcases hs with rfl | rfl | rfl | rfl | rfl | rfl | rfl | rfl | rfl
    all_goals
      go_enter Try.func11, Try.ntmps11
      go_wp2
      go_ret
      exact ⟨ret_int HV.out.symm, rfl⟩

theorem step_any (s b : Int) (w : World) (hs : Live s) : Calls Try.prog 11 #[.int .i64 s, .int .u8 b] w fun e w' => e = .returned (.int .i64 (stp s b)) ∧ w = w' := by
  by_cases hb : b = 43 ∨ b = 45 ∨ b = 46 ∨ b = 48 ∨ b = 69 ∨ b = 101
  · exact step_lit s b w hs hb
  · cases hd : dig b
    · exact step_else s b w hs hd (by omega) (by omega) (by omega) (by omega) (by omega)
    · have := dig_iff.1 hd
      exact step_dig s b w hs (by omega) (by omega)

/-- The same, its answer named. -/
theorem step_is (s b t : Int) (w : World) (hs : Live s) (h : stp s b = t) : Calls Try.prog 11 #[.int .i64 s, .int .u8 b] w fun e w' => e = .returned (.int .i64 t) ∧ w = w' := by
  have := step_any s b w hs
  rw [h] at this
  exact this

theorem accepting_any (s : Int) (w : World) (hs : Live s) : Calls Try.prog 12 #[.int .i64 s] w fun e w' => e = .returned (.bool (acc s)) ∧ w = w' := by
  rcases hs with rfl | rfl | rfl | rfl | rfl | rfl | rfl | rfl | rfl
  all_goals
    go_enter Try.func12, Try.ntmps12
    go_wp2
    go_ret
    exact ⟨ret_bool (by decide), rfl⟩

theorem accepting_is (s : Int) (d : Bool) (w : World) (hs : Live s) (h : acc s = d) : Calls Try.prog 12 #[.int .i64 s] w fun e w' => e = .returned (.bool d) ∧ w = w' := by
  have := accepting_any s w hs
  rw [h] at this
  exact this

theorem fin_yes {s : Int} {j : Nat} (h : acc s = true) : fin (s, j) = j := by simp [fin, h]
theorem fin_no {s : Int} {j : Nat} (h : acc s = false) : fin (s, j) = -1 := by simp [fin, h]

set_option maxHeartbeats 2000000 in
theorem model_any (b off n c i : Nat) (f : Nat → Int) (w : World) (hn : n ≤ 1048576) (hi : i < n) (hs : Seg w b off n f) :
    Calls Try.prog 7 #[.slice (some ⟨b, off, none⟩) n c, .int .i64 (i : Int)] w fun e w' => e = .returned (.int .i64 (res f n 0 i)) ∧ w = w' := by
  go_enter Try.func7, Try.ntmps7
  go_wp2_with fail
  go_loop [5, 6] (fun t k => ∃ (s : Int) (j : Nat), Live s ∧ j ≤ n ∧ t = .int .i64 s ∧ k = .int .i64 j ∧ Hid (res f n 0 i = res f n s j)) (fun _ k => n - (intOf k).toNat)
  case atStart => exact ⟨0, i, .inl rfl, by omega, rfl, rfl, rfl⟩
  case round =>
    obtain ⟨s, j, hl, hj, rfl, rfl, hq⟩ := hrel
    by_cases hlt : j < n
    · have hcell := hs j hlt
      by_cases hneg : stp s (f j) < 0
      · have hr : res f n 0 i = fin (s, j) := hq.out.trans (res_stop f n s j hneg)
        obtain ⟨t, ht⟩ : ∃ t, stp s (f j) = t := ⟨_, rfl⟩
        rw [ht] at hneg
        have HT : Hid (stp s (f j) = t) := ht
        clear ht hq
        cases ha : acc s
        · have HR : Hid (res f n 0 i = -1) := hr.trans (fin_no ha)
          have HA : Hid (acc s = false) := ha
          clear hr ha
          go_wp2_with fail
          refine (step_is s (f j) t w hl HT.out).mono ?_
          rintro e w' ⟨rfl, rfl⟩
          go_wp2_with fail
          refine (accepting_is s false w hl HA.out).mono ?_
          rintro e w' ⟨rfl, rfl⟩
          go_wp2_with fail
          go_ret
          exact ⟨ret_int HR.out.symm, rfl⟩
        · have HR : Hid (res f n 0 i = j) := hr.trans (fin_yes ha)
          have HA : Hid (acc s = true) := ha
          clear hr ha
          go_wp2_with fail
          refine (step_is s (f j) t w hl HT.out).mono ?_
          rintro e w' ⟨rfl, rfl⟩
          go_wp2_with fail
          refine (accepting_is s true w hl HA.out).mono ?_
          rintro e w' ⟨rfl, rfl⟩
          go_wp2_with fail
          go_ret
          exact ⟨ret_int HR.out.symm, rfl⟩
      · have hlive := stp_live s (f j) hneg
        obtain ⟨t, ht⟩ : ∃ t, stp s (f j) = t := ⟨_, rfl⟩
        rw [ht] at hneg hlive
        have HR : Hid (res f n 0 i = res f n t (j + 1)) := hq.out.trans (res_step f n s t j hlt ht (by omega))
        have HT : Hid (stp s (f j) = t) := ht
        have HL : Hid (Live t) := hlive
        clear ht hq hlive
        go_wp2_with fail
        refine (step_is s (f j) t w hl HT.out).mono ?_
        rintro e w' ⟨rfl, rfl⟩
        go_wp2_with fail
        go_round
        case rel => exact ⟨t, j + 1, HL.out, by omega, rfl, by go_num, HR⟩
        case measure => simp [intOf]; omega
    · have hr : res f n 0 i = fin (s, j) := hq.out.trans (res_end f n s j (by omega))
      clear hq
      cases ha : acc s
      · have HR : Hid (res f n 0 i = -1) := hr.trans (fin_no ha)
        have HA : Hid (acc s = false) := ha
        clear hr ha
        go_wp2_with fail
        refine (accepting_is s false w hl HA.out).mono ?_
        rintro e w' ⟨rfl, rfl⟩
        go_wp2_with fail
        go_ret
        exact ⟨ret_int HR.out.symm, rfl⟩
      · have HR : Hid (res f n 0 i = j) := hr.trans (fin_yes ha)
        have HA : Hid (acc s = true) := ha
        clear hr ha
        go_wp2_with fail
        refine (accepting_is s true w hl HA.out).mono ?_
        rintro e w' ⟨rfl, rfl⟩
        go_wp2_with fail
        go_ret
        exact ⟨ret_int HR.out.symm, rfl⟩

/-! ### The law (3) -/
theorem via_big (a : Option Addr) (n cp : Nat) (i : Int) (w : World) (hn : ¬ n ≤ 1048576) (hm : n ≤ maxLen) :
    Calls Try.prog 3 #[.slice a n cp, .int .i64 i] w fun e w' => e = .returned (.bool true) ∧ Below w.heap.size w w' := by
  go_enter Try.func3, Try.ntmps3
  go_wp2_with fail
  refine (size5_no _ _ _ _ _ hn hm).mono ?_
  rintro e w' ⟨rfl, rfl⟩
  go_wp2_with fail
  go_ret
  exact ⟨rfl, Below.refl _ _⟩

theorem via_out (a : Option Addr) (n cp : Nat) (i : Int) (w : World) (hn : n ≤ 1048576) (hk : i < 0 ∨ (n : Int) ≤ i) :
    Calls Try.prog 3 #[.slice a n cp, .int .i64 i] w fun e w' => e = .returned (.bool true) ∧ Below w.heap.size w w' := by
  by_cases h1 : i < 0
  · go_enter Try.func3, Try.ntmps3
    go_wp2_with fail
    refine (size5_yes _ _ _ _ _ hn).mono ?_
    rintro e w' ⟨rfl, rfl⟩
    go_wp2_with fail
    go_ret
    exact ⟨rfl, Below.refl _ _⟩
  · have d1 : decide (i < 0) = false := by simpa using h1
    have h2 : (n : Int) ≤ i := by omega
    go_enter Try.func3, Try.ntmps3
    go_wp2_with fail
    refine (size5_yes _ _ _ _ _ hn).mono ?_
    rintro e w' ⟨rfl, rfl⟩
    go_wp2_with fail
    go_ret
    exact ⟨rfl, Below.refl _ _⟩

set_option maxHeartbeats 1000000 in
theorem via_main (b off n cp i : Nat) (f : Nat → Int) (w : World) (hn : n ≤ 1048576) (hi : i < n) (hs : Seg w b off n f) :
    Calls Try.prog 3 #[.slice (some ⟨b, off, none⟩) n cp, .int .i64 (i : Int)] w fun e w' => e = .returned (.bool true) ∧ Below w.heap.size w w' := by
  have hne := fun w => run_neq_slice_nil_any (P := Try.prog) w 22 5 (some ⟨b, off, none⟩) n cp 0 0 Try.underlying22
  simp only [Option.isNone_some, Bool.not_false] at hne
  obtain ⟨w1, hmk, hr1, hb1⟩ := run_make n w (by omega)
  obtain ⟨w2, hcp, hr2, hb2⟩ := run_copy w.heap.size n _ f n cp b off w1 hr1 (hs.kept hb1)
  have hb : Below w.heap.size w w2 := hb1.trans hb2
  have hdi : decide ((i : Int) < 0) = false := by simp
  have sN := hr2.seg n (Nat.le_refl _)
  have hq : (res f n 0 i == res f n 0 i) = true := by simp
  clear hs hr1 hb1 hb2
  go_enter Try.func3, Try.ntmps3
  go_wp2_with fail
  refine (size5_yes _ _ _ _ _ hn).mono ?_
  rintro e w' ⟨rfl, rfl⟩
  go_wp2_with fail
  refine (ZZnumberEnd_any w.heap.size 0 n n i f w2 hn hi sN).mono ?_
  rintro e w' ⟨rfl, rfl⟩
  go_wp2_with fail
  refine (model_any w.heap.size 0 n n i f w2 hn hi sN).mono ?_
  rintro e w' ⟨rfl, rfl⟩
  go_wp2_with fail
  go_ret
  exact ⟨rfl, hb⟩

end Go.Proofs.Qxb6632361a
