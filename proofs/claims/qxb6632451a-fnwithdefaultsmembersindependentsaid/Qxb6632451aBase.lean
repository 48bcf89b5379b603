/- The small functions of seat b6632451a: zzPickB1 (number 6) and (Retry).WithDefaults (number 5). -/
import Derived.Test.Qxb6632451aRows
import Derived.WalkKit
import Derived.WalkSpells
import Derived.Deep.QuietTactic
import Derived.BigQuiet
import Derived.Outline
namespace Go.Proofs.Qxb6632451a
open Go.RowKit

theorem ret_int {k : IntKind} {a b : Int} (h : a = b) : Ending.returned (.int k a) = .returned (.int k b) := by rw [h]

/-- What zzPickB1 computes: the value, or the default where the value is zero. -/
def pick (v d : Int) : Int := if v = 0 then d else v

theorem pick_zero (d : Int) : pick 0 d = d := by simp [pick]
theorem pick_some {v d : Int} (h : ¬ v = 0) : pick v d = v := by simp [pick, h]
theorem pick_pick {v d : Int} (h : ¬ d = 0) : pick (pick v d) d = pick v d := by
  by_cases hv : v = 0
  · subst hv; rw [pick_zero, pick_some h]
  · rw [pick_some hv, pick_some hv]

theorem pick_any (v d : Int) (w : World) :
    Calls Try.prog 6 #[.int .i64 v, .int .i64 d] w fun e w' => e = .returned (.int .i64 (pick v d)) ∧ w' = w := by
  by_cases h : v = 0
  · go_enter Try.func6, Try.ntmps6
    go_wp2
    go_ret
    subst h
    exact ⟨ret_int (pick_zero d).symm, rfl⟩
  · go_enter Try.func6, Try.ntmps6
    go_wp2
    go_ret
    exact ⟨ret_int (pick_some h).symm, rfl⟩

theorem pick_is (v d p : Int) (w : World) (h : pick v d = p) :
    Calls Try.prog 6 #[.int .i64 v, .int .i64 d] w fun e w' => e = .returned (.int .i64 p) ∧ w' = w := by
  have := pick_any v d w
  rw [h] at this
  exact this

set_option maxHeartbeats 2000000 in
theorem defaults_any (x y z : Int) (w : World) :
    Calls Try.prog 5 #[.agg #[.int .i64 x, .int .i64 y, .int .i64 z]] w fun e w' =>
      e = .returned (.agg #[.int .i64 (pick x 10), .int .i64 (pick y 100), .int .i64 (pick z 60000)])
        ∧ ∃ c1 c2 : Array Value, (w.alloc (.cells c1 23)).alloc (.cells c2 23) = w' := by
  by_cases hx : x = 0
  · subst hx
    rw [pick_zero]
    by_cases hy : y = 0
    · subst hy
      rw [pick_zero]
      by_cases hz : z = 0
      · subst hz
        rw [pick_zero]
        go_enter Try.func5, Try.ntmps5
        go_wp2
        exact bodyPost_ret (v := .agg #[.int .i64 10, .int .i64 100, .int .i64 60000]) (by simp [results, Try.results5, go_sem]) rfl ⟨rfl, _, _, rfl⟩
      · rw [pick_some hz]
        go_enter Try.func5, Try.ntmps5
        go_wp2
        exact bodyPost_ret (v := .agg #[.int .i64 10, .int .i64 100, .int .i64 z]) (by simp [results, Try.results5, go_sem]) rfl ⟨rfl, _, _, rfl⟩
    · rw [pick_some hy]
      by_cases hz : z = 0
      · subst hz
        rw [pick_zero]
        go_enter Try.func5, Try.ntmps5
        go_wp2
        exact bodyPost_ret (v := .agg #[.int .i64 10, .int .i64 y, .int .i64 60000]) (by simp [results, Try.results5, go_sem]) rfl ⟨rfl, _, _, rfl⟩
      · rw [pick_some hz]
        go_enter Try.func5, Try.ntmps5
        go_wp2
        exact bodyPost_ret (v := .agg #[.int .i64 10, .int .i64 y, .int .i64 z]) (by simp [results, Try.results5, go_sem]) rfl ⟨rfl, _, _, rfl⟩
  · rw [pick_some hx]
    by_cases hy : y = 0
    · subst hy
      rw [pick_zero]
      by_cases hz : z = 0
      · subst hz
        rw [pick_zero]
        go_enter Try.func5, Try.ntmps5
        go_wp2
        exact bodyPost_ret (v := .agg #[.int .i64 x, .int .i64 100, .int .i64 60000]) (by simp [results, Try.results5, go_sem]) rfl ⟨rfl, _, _, rfl⟩
      · rw [pick_some hz]
        go_enter Try.func5, Try.ntmps5
        go_wp2
        exact bodyPost_ret (v := .agg #[.int .i64 x, .int .i64 100, .int .i64 z]) (by simp [results, Try.results5, go_sem]) rfl ⟨rfl, _, _, rfl⟩
    · rw [pick_some hy]
      by_cases hz : z = 0
      · subst hz
        rw [pick_zero]
        go_enter Try.func5, Try.ntmps5
        go_wp2
        exact bodyPost_ret (v := .agg #[.int .i64 x, .int .i64 y, .int .i64 60000]) (by simp [results, Try.results5, go_sem]) rfl ⟨rfl, _, _, rfl⟩
      · rw [pick_some hz]
        go_enter Try.func5, Try.ntmps5
        go_wp2
        exact bodyPost_ret (v := .agg #[.int .i64 x, .int .i64 y, .int .i64 z]) (by simp [results, Try.results5, go_sem]) rfl ⟨rfl, _, _, rfl⟩

theorem defaults_is (x y z p q r : Int) (w : World) (h1 : pick x 10 = p) (h2 : pick y 100 = q) (h3 : pick z 60000 = r) :
    Calls Try.prog 5 #[.agg #[.int .i64 x, .int .i64 y, .int .i64 z]] w fun e w' =>
      e = .returned (.agg #[.int .i64 p, .int .i64 q, .int .i64 r])
        ∧ ∃ c1 c2 : Array Value, (w.alloc (.cells c1 23)).alloc (.cells c2 23) = w' := by
  have := defaults_any x y z w
  rw [h1, h2, h3] at this
  exact this

end Go.Proofs.Qxb6632451a
