/-
  numberEnd (10), ZZnumberEnd (6).
-/
import Derived.Test.Qxb6632361aDigits
namespace Go.Proofs.Qxb6632361a
open Go.RowKit

set_option maxHeartbeats 4000000 in
set_option maxRecDepth 100000 in
theorem numberEnd_any (b off n c i : Nat) (f : Nat → Int) (w : World) (hn : n ≤ 1048576) (hi : i < n) (hs : Seg w b off n f) :
    Calls Try.prog 10 #[.slice (some ⟨b, off, none⟩) n c, .int .i64 (i : Int)] w fun e w' => e = .returned (.int .i64 (res f n 0 i)) ∧ w = w' := by
  have hcell := hs i hi
  go_enter Try.func10, Try.ntmps10
  go_upto_if 11 with fail
  go_cut [1] from 7 to 13 (fun t w' => w = w' ∧ ∃ j : Nat, j ≤ n ∧ t = .int .i64 j ∧ Hid (res f n 0 i = res f n 1 j))
  case first =>
    by_cases h : f i = 45
    · go_wp2
      go_meet
      case rel => exact ⟨rfl, i + 1, by omega, by go_num, minus_yes f n i hi h⟩
    · go_wp2
      go_meet
      case rel => exact ⟨rfl, i, by omega, rfl, minus_no f n i hi h⟩
  case rest =>
    obtain ⟨rfl, j, hj, rfl, hres⟩ := hcut
    clear hcell
    go_step
    go_step
    go_cut [1] from 14 to 50 (fun t w' => w = w' ∧ ∃ k : Nat, k ≤ n ∧ t = .int .i64 k ∧ Hid (res f n 0 i = res f n 2 k))
    case first =>
      by_cases hlt : j < n
      · have hcell := hs j hlt
        by_cases h0 : f j = 48
        · have hr : Hid (res f n 0 i = res f n 2 (j + 1)) := hres.out.trans (lead_zero f n j hlt h0)
          go_wp2
          go_meet
          case rel => exact ⟨rfl, j + 1, by omega, by go_num, hr⟩
        · by_cases h1 : 49 ≤ f j
          · by_cases h2 : f j ≤ 57
            · have hr : Hid (res f n 0 i = res f n 2 (digEnd f n (j + 1))) := hres.out.trans (lead_digits f n j hlt h1 h2)
              go_wp2_with fail
              rw [show ((j : Int) + 1) = ((j + 1 : Nat) : Int) by omega]
              refine (digits_any b off n c (j + 1) f w hn (by omega) hs).mono ?_
              rintro e w' ⟨rfl, rfl⟩
              go_wp2_with fail
              go_meet
              case rel => exact ⟨rfl, _, digEnd_le f n (j + 1) (by omega), rfl, hr⟩
            · have hr : Hid (res f n 0 i = -1) := hres.out.trans (lead_none f n j (.inr (by omega)))
              go_wp2
              go_ret
              exact ⟨ret_int hr.out.symm, rfl⟩
          · have hr : Hid (res f n 0 i = -1) := hres.out.trans (lead_none f n j (.inr (by omega)))
            have hd1 : decide (49 ≤ f j) = false := by simpa using h1
            go_wp2
            go_ret
            exact ⟨ret_int hr.out.symm, rfl⟩
      · have hr : Hid (res f n 0 i = -1) := hres.out.trans (lead_none f n j (.inl (by omega)))
        have hd1 : decide ((j : Int) < (n : Int)) = false := by simp; omega
        go_wp2
        go_ret
        exact ⟨ret_int hr.out.symm, rfl⟩
    case rest =>
      clear hres
      obtain ⟨rfl, k, hk, rfl, hres⟩ := hcut
      go_step
      go_step
      go_cut [1] from 51 to 69 (fun t w' => w = w' ∧ ∃ l : Nat, l ≤ n ∧ t = .int .i64 l ∧ Hid (res f n 0 i = expo f n l))
      case first =>
        by_cases hlt : k < n
        · have hcell := hs k hlt
          by_cases h0 : f k = 46
          · go_wp2_with fail
            rw [show ((k : Int) + 1) = ((k + 1 : Nat) : Int) by omega]
            refine (digits_any b off n c (k + 1) f w hn (by omega) hs).mono ?_
            rintro e w' ⟨rfl, rfl⟩
            by_cases hd : digEnd f n (k + 1) = k + 1
            · have hr : Hid (res f n 0 i = -1) := hres.out.trans (frac_bad f n k hlt h0 hd)
              have hdb : ((digEnd f n (k + 1) : Nat) : Int) = ((k + 1 : Nat) : Int) := by omega
              rw [hd]
              clear hd hdb
              go_wp2_with fail
              go_ret
              exact ⟨ret_int hr.out.symm, rfl⟩
            · have hr : Hid (res f n 0 i = expo f n (digEnd f n (k + 1))) := hres.out.trans (frac_good f n k hlt h0 hd)
              have hle := digEnd_le f n (k + 1) (by omega)
              generalize digEnd f n (k + 1) = d at *
              go_wp2_with fail
              go_meet
              case rel => exact ⟨rfl, d, hle, rfl, hr⟩
          · have hr : Hid (res f n 0 i = expo f n k) := hres.out.trans (frac_none f n k (.inr h0))
            go_wp2
            go_meet
            case rel => exact ⟨rfl, k, hk, rfl, hr⟩
        · have hr : Hid (res f n 0 i = expo f n k) := hres.out.trans (frac_none f n k (.inl (by omega)))
          have hd1 : decide ((k : Int) < (n : Int)) = false := by simp; omega
          go_wp2
          go_meet
          case rel => exact ⟨rfl, k, hk, rfl, hr⟩
      case rest =>
        clear hres
        obtain ⟨rfl, l, hl, rfl, hres⟩ := hcut
        by_cases he : l < n ∧ (f l = 101 ∨ f l = 69)
        · obtain ⟨hlt, he⟩ := he
          have hcell := hs l hlt
          have hr6 : res f n 0 i = res f n 6 (l + 1) := hres.out.trans (expo_some f n l hlt he)
          by_cases hsg : l + 1 < n ∧ (f (l + 1) = 43 ∨ f (l + 1) = 45)
          · obtain ⟨hlt2, hsg⟩ := hsg
            have hcell2 := hs (l + 1) hlt2
            have hr7 : res f n 0 i = res f n 7 (l + 1 + 1) := hr6.trans (sign_yes f n _ hlt2 hsg)
            have hrb : Hid (digEnd f n (l + 1 + 1) = l + 1 + 1 → res f n 0 i = -1) := fun h => hr7.trans (exp_bad f n _ (by omega) h)
            have hrg : Hid (¬ digEnd f n (l + 1 + 1) = l + 1 + 1 → res f n 0 i = digEnd f n (l + 1 + 1)) := fun h => hr7.trans (exp_good f n _ h)
            clear hr6 hr7 hres
            have he2 : f l = 101 ∨ ((f l == 101) = false ∧ f l = 69) := by
              by_cases h : f l = 101
              · exact .inl h
              · exact .inr ⟨beq_eq_false_iff_ne.2 h, by omega⟩
            have hsg2 : f (l + 1) = 43 ∨ ((f (l + 1) == 43) = false ∧ f (l + 1) = 45) := by
              by_cases h : f (l + 1) = 43
              · exact .inl h
              · exact .inr ⟨beq_eq_false_iff_ne.2 h, by omega⟩
            clear he hsg
            rcases he2 with he | ⟨he1, he⟩
            all_goals
              rcases hsg2 with hsg | ⟨hsg1, hsg⟩
            all_goals
              go_wp2_with fail
              rw [show ((l : Int) + 1 + 1) = ((l + 1 + 1 : Nat) : Int) by omega]
              refine (digits_any b off n c (l + 1 + 1) f w hn (by omega) hs).mono ?_
              rintro e w' ⟨rfl, rfl⟩
              by_cases hd : digEnd f n (l + 1 + 1) = l + 1 + 1
              · have hr : Hid (res f n 0 i = -1) := hrb.out hd
                rw [hd]
                clear hd hrb hrg
                go_wp2_with fail
                go_ret
                exact ⟨ret_int hr.out.symm, rfl⟩
              · have hr : Hid (res f n 0 i = digEnd f n (l + 1 + 1)) := hrg.out hd
                clear hrb hrg
                generalize digEnd f n (l + 1 + 1) = d at *
                go_wp2_with fail
                go_ret
                exact ⟨ret_int hr.out.symm, rfl⟩
          · have hr7 : res f n 0 i = res f n 7 (l + 1) := hr6.trans (sign_no f n _ (by omega))
            have hrb : Hid (digEnd f n (l + 1) = l + 1 → res f n 0 i = -1) := fun h => hr7.trans (exp_bad f n _ (by omega) h)
            have hrg : Hid (¬ digEnd f n (l + 1) = l + 1 → res f n 0 i = digEnd f n (l + 1)) := fun h => hr7.trans (exp_good f n _ h)
            clear hr6 hr7 hres
            have he2 : f l = 101 ∨ ((f l == 101) = false ∧ f l = 69) := by
              by_cases h : f l = 101
              · exact .inl h
              · exact .inr ⟨beq_eq_false_iff_ne.2 h, by omega⟩
            by_cases hlt2 : l + 1 < n
            · have hcell2 := hs (l + 1) hlt2
              have hs1 : (f (l + 1) == 43) = false := beq_eq_false_iff_ne.2 fun h => hsg ⟨hlt2, .inl h⟩
              have hs2 : (f (l + 1) == 45) = false := beq_eq_false_iff_ne.2 fun h => hsg ⟨hlt2, .inr h⟩
              clear he hsg
              rcases he2 with he | ⟨he1, he⟩
              all_goals
                go_wp2_with fail
                rw [show ((l : Int) + 1) = ((l + 1 : Nat) : Int) by omega]
                refine (digits_any b off n c (l + 1) f w hn (by omega) hs).mono ?_
                rintro e w' ⟨rfl, rfl⟩
                by_cases hd : digEnd f n (l + 1) = l + 1
                · have hr : Hid (res f n 0 i = -1) := hrb.out hd
                  rw [hd]
                  clear hd hrb hrg
                  go_wp2_with fail
                  go_ret
                  exact ⟨ret_int hr.out.symm, rfl⟩
                · have hr : Hid (res f n 0 i = digEnd f n (l + 1)) := hrg.out hd
                  clear hrb hrg
                  generalize digEnd f n (l + 1) = d at *
                  go_wp2_with fail
                  go_ret
                  exact ⟨ret_int hr.out.symm, rfl⟩
            · have hd1 : decide ((l : Int) + 1 < (n : Int)) = false := by simp; omega
              clear he hsg
              rcases he2 with he | ⟨he1, he⟩
              all_goals
                go_wp2_with fail
                rw [show ((l : Int) + 1) = ((l + 1 : Nat) : Int) by omega]
                refine (digits_any b off n c (l + 1) f w hn (by omega) hs).mono ?_
                rintro e w' ⟨rfl, rfl⟩
                by_cases hd : digEnd f n (l + 1) = l + 1
                · have hr : Hid (res f n 0 i = -1) := hrb.out hd
                  rw [hd]
                  clear hd hrb hrg
                  go_wp2_with fail
                  go_ret
                  exact ⟨ret_int hr.out.symm, rfl⟩
                · have hr : Hid (res f n 0 i = digEnd f n (l + 1)) := hrg.out hd
                  clear hrb hrg
                  generalize digEnd f n (l + 1) = d at *
                  go_wp2_with fail
                  go_ret
                  exact ⟨ret_int hr.out.symm, rfl⟩
        · have hr : Hid (res f n 0 i = l) := hres.out.trans (expo_none f n l he)
          clear hres
          by_cases hlt : l < n
          · have hcell := hs l hlt
            have h1 : (f l == 101) = false := beq_eq_false_iff_ne.2 fun h => he ⟨hlt, .inl h⟩
            have h2 : (f l == 69) = false := beq_eq_false_iff_ne.2 fun h => he ⟨hlt, .inr h⟩
            clear he
            go_wp2
            go_ret
            exact ⟨ret_int hr.out.symm, rfl⟩
          · have hd1 : decide ((l : Int) < (n : Int)) = false := by simp; omega
            clear he
            go_wp2
            go_ret
            exact ⟨ret_int hr.out.symm, rfl⟩

theorem ZZnumberEnd_any (b off n c i : Nat) (f : Nat → Int) (w : World) (hn : n ≤ 1048576) (hi : i < n) (hs : Seg w b off n f) :
    Calls Try.prog 6 #[.slice (some ⟨b, off, none⟩) n c, .int .i64 (i : Int)] w fun e w' => e = .returned (.int .i64 (res f n 0 i)) ∧ w = w' := by
  have h9 := numberEnd_any b off n c i f w hn hi hs
  go_enter Try.func6, Try.ntmps6
  go_wp2_with fail
  refine h9.mono ?_
  rintro e w' ⟨rfl, rfl⟩
  go_wp2
  go_ret
  exact ⟨rfl, rfl⟩

/-- The same, its answer named. -/
theorem ZZnumberEnd_is (b off n c i : Nat) (f : Nat → Int) (r : Int) (w : World) (hr : res f n 0 i = r) (hn : n ≤ 1048576) (hi : i < n) (hs : Seg w b off n f) :
    Calls Try.prog 6 #[.slice (some ⟨b, off, none⟩) n c, .int .i64 (i : Int)] w fun e w' => e = .returned (.int .i64 r) ∧ w = w' := by
  have h := ZZnumberEnd_any b off n c i f w hn hi hs
  rw [hr] at h
  exact h

end Go.Proofs.Qxb6632361a
