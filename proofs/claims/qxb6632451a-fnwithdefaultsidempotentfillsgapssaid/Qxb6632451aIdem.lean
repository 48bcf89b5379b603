/- The walk of FnWithDefaultsIdempotentFillsGaps (number 3). -/
import Derived.Test.Qxb6632451aBase
namespace Go.Proofs.Qxb6632451a
open Go.RowKit

set_option maxHeartbeats 2000000 in
theorem idem_any (a0 a1 a2 : Int) (w : World) :
    Calls Try.prog 3 #[.int .i64 a0, .int .i64 a1, .int .i64 a2] w fun e w' => e = .returned (.bool true) ∧ Grown w w' := by
  obtain ⟨p, hp⟩ : ∃ p, pick a0 10 = p := ⟨_, rfl⟩
  obtain ⟨q, hq⟩ : ∃ q, pick a1 100 = q := ⟨_, rfl⟩
  obtain ⟨r, hr⟩ : ∃ r, pick a2 60000 = r := ⟨_, rfl⟩
  have HP2 : Hid (pick p 10 = p) := show pick p 10 = p by rw [← hp]; exact pick_pick (by decide)
  have HQ2 : Hid (pick q 100 = q) := show pick q 100 = q by rw [← hq]; exact pick_pick (by decide)
  have HR2 : Hid (pick r 60000 = r) := show pick r 60000 = r by rw [← hr]; exact pick_pick (by decide)
  have HP : Hid (pick a0 10 = p) := hp
  have HQ : Hid (pick a1 100 = q) := hq
  have HR : Hid (pick a2 60000 = r) := hr
  clear hp hq hr
  have ep : (p != p) = false := by simp
  have eq : (q != q) = false := by simp
  have er : (r != r) = false := by simp
  have e0 : (a0 == a0) = true := by simp
  have e1 : (a1 == a1) = true := by simp
  have e2 : (a2 == a2) = true := by simp
  go_enter Try.func3, Try.ntmps3
  go_wp2_with fail
  refine (defaults_is a0 a1 a2 p q r _ HP.out HQ.out HR.out).mono ?_
  rintro e w' ⟨rfl, c1, c2, rfl⟩
  go_wp2_with fail
  refine (defaults_is p q r p q r _ HP2.out HQ2.out HR2.out).mono ?_
  rintro e w' ⟨rfl, c3, c4, rfl⟩
  go_wp2_with fail
  go_quiet ((go_at_call 6; exact Calls.quiet_of_same (pick_is _ _ _ _ HP.out)))
  go_wp2_with fail
  go_quiet ((go_at_call 6; exact (pick_is _ _ _ _ HQ.out).mono fun _ _ h => ⟨h.1, _, h.2⟩))
  go_wp2_with fail
  go_quiet ((go_at_call 6; exact (pick_is _ _ _ _ HR.out).mono fun _ _ h => ⟨h.1, _, h.2⟩))
  go_wp2
  go_ret
  exact ⟨rfl, by repeat (first | exact Grown.refl _ | apply Grown.drew | apply Grown.alloc)⟩

end Go.Proofs.Qxb6632451a
