/-
  The walk of FnNumberEndCutAnywhere (4).
-/
import Derived.Test.Qxb6632361aNumEnd
import Derived.Test.Qxb6632361aMem
namespace Go.Proofs.Qxb6632361a
open Go.RowKit

theorem cut_big (a : Option Addr) (n cp : Nat) (i c : Int) (w : World) (hn : ¬ n ≤ 1048576) (hm : n ≤ maxLen) :
    Calls Try.prog 4 #[.slice a n cp, .int .i64 i, .int .i64 c] w fun e w' => e = .returned (.bool true) ∧ Below w.heap.size w w' := by
  go_enter Try.func4, Try.ntmps4
  go_wp2_with fail
  refine (size8_no _ _ _ _ _ _ hn hm).mono ?_
  rintro e w' ⟨rfl, rfl⟩
  go_wp2_with fail
  go_ret
  exact ⟨rfl, Below.refl _ _⟩

theorem cut_out (a : Option Addr) (n cp : Nat) (i c : Int) (w : World) (hn : n ≤ 1048576) (hk : i < 0 ∨ (n : Int) ≤ i ∨ c ≤ i ∨ (n : Int) < c) :
    Calls Try.prog 4 #[.slice a n cp, .int .i64 i, .int .i64 c] w fun e w' => e = .returned (.bool true) ∧ Below w.heap.size w w' := by
  by_cases h1 : i < 0
  · go_enter Try.func4, Try.ntmps4
    go_wp2_with fail
    refine (size8_yes _ _ _ _ _ _ hn).mono ?_
    rintro e w' ⟨rfl, rfl⟩
    go_wp2_with fail
    go_ret
    exact ⟨rfl, Below.refl _ _⟩
  · have d1 : decide (i < 0) = false := by simpa using h1
    by_cases h2 : (n : Int) ≤ i
    · go_enter Try.func4, Try.ntmps4
      go_wp2_with fail
      refine (size8_yes _ _ _ _ _ _ hn).mono ?_
      rintro e w' ⟨rfl, rfl⟩
      go_wp2_with fail
      go_ret
      exact ⟨rfl, Below.refl _ _⟩
    · by_cases h3 : c ≤ i
      · go_enter Try.func4, Try.ntmps4
        go_wp2_with fail
        refine (size8_yes _ _ _ _ _ _ hn).mono ?_
        rintro e w' ⟨rfl, rfl⟩
        go_wp2_with fail
        go_ret
        exact ⟨rfl, Below.refl _ _⟩
      · have d3 : decide (c ≤ i) = false := by simpa using h3
        have h4 : (n : Int) < c := by omega
        go_enter Try.func4, Try.ntmps4
        go_wp2_with fail
        refine (size8_yes _ _ _ _ _ _ hn).mono ?_
        rintro e w' ⟨rfl, rfl⟩
        go_wp2_with fail
        go_ret
        exact ⟨rfl, Below.refl _ _⟩

set_option maxHeartbeats 4000000 in
theorem cut_main (b off n cp i c : Nat) (f : Nat → Int) (w : World) (hn : n ≤ 1048576) (hi : i < n) (hc : i < c + 1) (hcn : c + 1 ≤ n) (hs : Seg w b off n f) :
    Calls Try.prog 4 #[.slice (some ⟨b, off, none⟩) n cp, .int .i64 (i : Int), .int .i64 ((c : Int) + 1)] w fun e w' => e = .returned (.bool true) ∧ Below w.heap.size w w' := by
  have hne := fun w => run_neq_slice_nil_any (P := Try.prog) w 22 5 (some ⟨b, off, none⟩) n cp 0 0 Try.underlying22
  simp only [Option.isNone_some, Bool.not_false] at hne
  obtain ⟨w1, hmk, hr1, hb1⟩ := run_make n w (by omega)
  obtain ⟨w2, hcp, hr2, hb2⟩ := run_copy w.heap.size n _ f n cp b off w1 hr1 (hs.kept hb1)
  have hb : Below w.heap.size w w2 := hb1.trans hb2
  have hlaw := cut_law f n i (c + 1) hi hc hcn
  have hcc := hr2.cell c (by omega)
  have hdi : decide ((i : Int) < 0) = false := by simp
  have hdc : decide ((c : Int) + 1 ≤ (i : Int)) = false := by simp; omega
  have sN := hr2.seg n (Nat.le_refl _)
  have sC := hr2.seg (c + 1) hcn
  clear hs hr1 hb1 hb2
  rcases hlaw with ⟨r, hr, hr1, hrn, hrd, hle, hgt⟩ | ⟨hr, hrc⟩
  · obtain ⟨p, rfl⟩ : ∃ p, r = p + 1 := ⟨r - 1, by omega⟩
    rw [show ((p + 1 : Nat) : Int) = (p : Int) + 1 by omega] at hr
    rw [Nat.add_sub_cancel] at hrd hgt
    have hcr := hr2.cell p (by omega)
    have hdr : decide ((p : Int) + 1 ≤ (i : Int)) = false := by simp; omega
    by_cases hcmp : p + 1 ≤ c + 1
    · have hC : Hid (res f (c + 1) 0 i = (p : Int) + 1) := by rw [show ((p : Int) + 1) = ((p + 1 : Nat) : Int) by omega]; exact hle hcmp
      have hR : Hid (res f n 0 i = (p : Int) + 1) := hr
      have hD : Hid (dig (f p) = true) := hrd
      clear hle hgt hr hrd
      go_enter Try.func4, Try.ntmps4
      go_wp2_with fail
      refine (size8_yes _ _ _ _ _ _ hn).mono ?_
      rintro e w' ⟨rfl, rfl⟩
      go_wp2_with fail
      refine (ZZnumberEnd_is w.heap.size 0 n n i f _ w2 hR.out hn hi sN).mono ?_
      rintro e w' ⟨rfl, rfl⟩
      go_wp2_with fail
      refine (ZZnumberEnd_is w.heap.size 0 (c + 1) n i f _ w2 hC.out (by omega) hc sC).mono ?_
      rintro e w' ⟨rfl, rfl⟩
      go_wp2_with fail
      refine (isDigit_is (f p) true w2 hD.out).mono ?_
      rintro e w' ⟨rfl, rfl⟩
      go_wp2_with fail
      go_ret
      exact ⟨rfl, hb⟩
    · have hR : Hid (res f n 0 i = (p : Int) + 1) := hr
      have hD : Hid (dig (f p) = true) := hrd
      have hG := hgt (by omega)
      clear hle hgt hr hrd
      cases hdc2 : dig (f c)
      · rw [hdc2, if_neg (by simp)] at hG
        have hC : Hid (res f (c + 1) 0 i = -1) := hG
        have hDC : Hid (dig (f c) = false) := hdc2
        clear hG hdc2
        go_enter Try.func4, Try.ntmps4
        go_wp2_with fail
        refine (size8_yes _ _ _ _ _ _ hn).mono ?_
        rintro e w' ⟨rfl, rfl⟩
        go_wp2_with fail
        refine (ZZnumberEnd_is w.heap.size 0 n n i f _ w2 hR.out hn hi sN).mono ?_
        rintro e w' ⟨rfl, rfl⟩
        go_wp2_with fail
        refine (ZZnumberEnd_is w.heap.size 0 (c + 1) n i f _ w2 hC.out (by omega) hc sC).mono ?_
        rintro e w' ⟨rfl, rfl⟩
        go_wp2_with fail
        refine (isDigit_is (f p) true w2 hD.out).mono ?_
        rintro e w' ⟨rfl, rfl⟩
        go_wp2_with fail
        refine (isDigit_is (f c) false w2 hDC.out).mono ?_
        rintro e w' ⟨rfl, rfl⟩
        go_wp2_with fail
        go_ret
        exact ⟨rfl, hb⟩
      · rw [hdc2, if_pos rfl, show ((c + 1 : Nat) : Int) = (c : Int) + 1 by omega] at hG
        have hC : Hid (res f (c + 1) 0 i = (c : Int) + 1) := hG
        have hDC : Hid (dig (f c) = true) := hdc2
        clear hG hdc2
        go_enter Try.func4, Try.ntmps4
        go_wp2_with fail
        refine (size8_yes _ _ _ _ _ _ hn).mono ?_
        rintro e w' ⟨rfl, rfl⟩
        go_wp2_with fail
        refine (ZZnumberEnd_is w.heap.size 0 n n i f _ w2 hR.out hn hi sN).mono ?_
        rintro e w' ⟨rfl, rfl⟩
        go_wp2_with fail
        refine (ZZnumberEnd_is w.heap.size 0 (c + 1) n i f _ w2 hC.out (by omega) hc sC).mono ?_
        rintro e w' ⟨rfl, rfl⟩
        go_wp2_with fail
        refine (isDigit_is (f p) true w2 hD.out).mono ?_
        rintro e w' ⟨rfl, rfl⟩
        go_wp2_with fail
        refine (isDigit_is (f c) true w2 hDC.out).mono ?_
        rintro e w' ⟨rfl, rfl⟩
        go_wp2_with fail
        go_ret
        exact ⟨rfl, hb⟩
  · have hR : Hid (res f n 0 i = -1) := hr
    rcases hrc with hrc | ⟨hrc, hd⟩
    · have hC : Hid (res f (c + 1) 0 i = -1) := hrc
      clear hr hrc
      go_enter Try.func4, Try.ntmps4
      go_wp2_with fail
      refine (size8_yes _ _ _ _ _ _ hn).mono ?_
      rintro e w' ⟨rfl, rfl⟩
      go_wp2_with fail
      refine (ZZnumberEnd_is w.heap.size 0 n n i f _ w2 hR.out hn hi sN).mono ?_
      rintro e w' ⟨rfl, rfl⟩
      go_wp2_with fail
      refine (ZZnumberEnd_is w.heap.size 0 (c + 1) n i f _ w2 hC.out (by omega) hc sC).mono ?_
      rintro e w' ⟨rfl, rfl⟩
      go_wp2_with fail
      go_ret
      exact ⟨rfl, hb⟩
    · rw [Nat.add_sub_cancel] at hd
      rw [show ((c + 1 : Nat) : Int) = (c : Int) + 1 by omega] at hrc
      have hC : Hid (res f (c + 1) 0 i = (c : Int) + 1) := hrc
      have hDC : Hid (dig (f c) = true) := hd
      clear hr hrc hd
      go_enter Try.func4, Try.ntmps4
      go_wp2_with fail
      refine (size8_yes _ _ _ _ _ _ hn).mono ?_
      rintro e w' ⟨rfl, rfl⟩
      go_wp2_with fail
      refine (ZZnumberEnd_is w.heap.size 0 n n i f _ w2 hR.out hn hi sN).mono ?_
      rintro e w' ⟨rfl, rfl⟩
      go_wp2_with fail
      refine (ZZnumberEnd_is w.heap.size 0 (c + 1) n i f _ w2 hC.out (by omega) hc sC).mono ?_
      rintro e w' ⟨rfl, rfl⟩
      go_wp2_with fail
      refine (isDigit_is (f c) true w2 hDC.out).mono ?_
      rintro e w' ⟨rfl, rfl⟩
      go_wp2_with fail
      go_ret
      exact ⟨rfl, hb⟩

end Go.Proofs.Qxb6632361a
