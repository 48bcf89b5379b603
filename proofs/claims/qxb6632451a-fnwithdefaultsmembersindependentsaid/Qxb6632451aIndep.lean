/- The walk of FnWithDefaultsMembersIndependent (number 4). -/
import Derived.Test.Qxb6632451aBase
namespace Go.Proofs.Qxb6632451a
open Go.RowKit

set_option maxHeartbeats 4000000 in
theorem indep_any (a1 a2 a3 b1 b2 b3 : Int) (w : World) :
    Calls Try.prog 4 #[.int .i64 a1, .int .i64 a2, .int .i64 a3, .int .i64 b1, .int .i64 b2, .int .i64 b3] w fun e w' => e = .returned (.bool true) ∧ Grown w w' := by
  obtain ⟨p, hp⟩ : ∃ p, pick a1 10 = p := ⟨_, rfl⟩
  obtain ⟨q, hq⟩ : ∃ q, pick a2 100 = q := ⟨_, rfl⟩
  obtain ⟨r, hr⟩ : ∃ r, pick a3 60000 = r := ⟨_, rfl⟩
  obtain ⟨s, hs⟩ : ∃ s, pick b1 10 = s := ⟨_, rfl⟩
  obtain ⟨t, ht⟩ : ∃ t, pick b2 100 = t := ⟨_, rfl⟩
  obtain ⟨u, hu⟩ : ∃ u, pick b3 60000 = u := ⟨_, rfl⟩
  have HP : Hid (pick a1 10 = p) := hp
  have HQ : Hid (pick a2 100 = q) := hq
  have HR : Hid (pick a3 60000 = r) := hr
  have HS : Hid (pick b1 10 = s) := hs
  have HT : Hid (pick b2 100 = t) := ht
  have HU : Hid (pick b3 60000 = u) := hu
  clear hp hq hr hs ht hu
  have ep : (p != p) = false := by simp
  have er : (r != r) = false := by simp
  have et : (t != t) = false := by simp
  have fp : (p == p) = true := by simp
  have fq : (q == q) = true := by simp
  have fr : (r == r) = true := by simp
  go_enter Try.func4, Try.ntmps4
  go_wp2_with fail
  refine (defaults_is a1 a2 a3 p q r _ HP.out HQ.out HR.out).mono ?_
  rintro e w' ⟨rfl, c1, c2, rfl⟩
  go_wp2_with fail
  refine (defaults_is b1 b2 b3 s t u _ HS.out HT.out HU.out).mono ?_
  rintro e w' ⟨rfl, c3, c4, rfl⟩
  go_wp2_with fail
  refine (defaults_is a1 b2 a3 p t r _ HP.out HT.out HR.out).mono ?_
  rintro e w' ⟨rfl, c5, c6, rfl⟩
  go_wp2_with fail
  go_quiet ((go_at_call 6; exact (pick_is _ _ _ _ HT.out).mono fun _ _ h => ⟨h.1, _, h.2⟩))
  go_wp2_with fail
  go_quiet ((go_at_call 6; first
    | exact (pick_is _ _ _ _ HP.out).mono fun _ _ h => ⟨h.1, _, h.2⟩
    | exact (pick_is _ _ _ _ HQ.out).mono fun _ _ h => ⟨h.1, _, h.2⟩
    | exact (pick_is _ _ _ _ HR.out).mono fun _ _ h => ⟨h.1, _, h.2⟩))
  go_wp2
  go_ret
  exact ⟨rfl, by repeat (first | exact Grown.refl _ | apply Grown.drew | apply Grown.alloc)⟩

end Go.Proofs.Qxb6632451a
