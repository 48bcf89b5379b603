/-
  The small callees: bytesEq (9) and sameAnswer (11) at one slice twice; paramCost (6); the size tests (5, 12).
-/
import Derived.Test.Qxb6632327aBase
namespace Go.Proofs.Qxb6632327a
open Go.RowKit

theorem below_drewN (w : World) (m : Nat) : Below w.heap.size w (w.drewN m) := ⟨rfl, rfl, rfl, Nat.le_refl _, fun _ _ => rfl⟩

set_option maxHeartbeats 400000 in
theorem bytesEq_same (s : SV) (w : World) (hs : Byts w s) :
    Calls Try.prog 9 #[.slice s.a s.n s.c, .slice s.a s.n s.c] w fun e w' => e = .returned (.bool true) ∧ Below w.heap.size w w' := by
  obtain ⟨a, n, c⟩ := s
  obtain ⟨hn, hb⟩ := hs
  simp only at hn hb ⊢
  unfold maxLen at hn
  have hq : ((n : Int) != (n : Int)) = false := by simp
  go_enter Try.func9, Try.ntmps9
  go_wp2
  go_loopw [5] (fun i wr => ∃ k m : Nat, k ≤ n ∧ i = .int .i64 k ∧ wr = w.drewN m) (fun i _ => n - (intOf i).toNat)
  case atStart => exact ⟨0, 0, Nat.zero_le _, rfl, rfl⟩
  case round =>
    obtain ⟨k, m, hk, rfl, rfl⟩ := hrel
    by_cases hlt : k < n
    · obtain ⟨b, off, f, rfl, hc⟩ := hb (by omega)
      have hcell := hc k hlt
      have hq2 : (f k != f k) = false := by simp
      have hlt2 : (k : Int) < (n : Int) := by omega
      go_wp2
      go_quiet (fail)
      go_wp2
      go_roundw
      case rel => exact ⟨k + 1, _, by omega, by go_num, rfl⟩
      case measure => simp [intOf]; omega
    · obtain rfl : k = n := by omega
      go_wp2
      go_ret
      exact ⟨rfl, below_drewN _ _⟩

theorem sameAnswer_same (s : SV) (f : Bool) (w : World) (hs : Byts w s) :
    Calls Try.prog 11 #[.slice s.a s.n s.c, .bool f, .slice s.a s.n s.c, .bool f] w fun e w' => e = .returned (.bool true) ∧ Below w.heap.size w w' := by
  have hq : (f == f) = true := by simp
  have hq2 : (s.a.isNone == s.a.isNone) = true := by simp
  have hne := fun w => Lib.run_eql_slice_nil (P := Try.prog) w 25 5 s.a s.n s.c 0 0 Try.underlying25
  go_enter Try.func11, Try.ntmps11
  go_wp2_with fail
  refine (bytesEq_same s w hs).mono ?_
  rintro e w' ⟨rfl, hb⟩
  go_wp2
  go_ret
  exact ⟨rfl, hb⟩

set_option maxHeartbeats 400000 in
theorem paramCost_any (a1 a2 : Option Addr) (n1 c1 n2 c2 : Nat) (F : Nat → SV) (w : World) (h1 : n1 ≤ 65536) (h2 : n2 ≤ 65536) (hv : Vals w a2 n2 F) :
    Calls Try.prog 6 #[.slice a1 n1 c1, .slice a2 n2 c2] w fun e w' => ∃ z : Int, e = .returned (.int .i64 z) ∧ w = w' := by
  have hd1 : decide ((65536 : Int) < n1) = false := by simp; omega
  by_cases hbig : (1048576 : Int) < 2 * n1 + 24 * n2
  · go_enter Try.func6, Try.ntmps6
    go_wp2
    go_ret
    exact ⟨_, rfl, rfl⟩
  · go_enter Try.func6, Try.ntmps6
    go_wp2
    go_loop [5, 6] (fun z i => ∃ (k : Nat) (y : Int), k ≤ n2 ∧ i = .int .i64 k ∧ z = .int .i64 y) (fun _ i => n2 - (intOf i).toNat)
    case atStart => exact ⟨0, _, Nat.zero_le _, rfl, rfl⟩
    case round =>
      obtain ⟨k, y, hk, rfl, rfl⟩ := hrel
      by_cases hlt : k < n2
      · obtain ⟨b, off, rfl, hc⟩ := hv (by omega)
        have hcell := hc k hlt
        go_wp2
        · go_ret
          exact ⟨⟨_, rfl⟩, rfl⟩
        · go_round
          case rel => exact ⟨k + 1, _, by omega, by go_num, rfl⟩
          case measure => simp [intOf]; omega
      · obtain rfl : k = n2 := by omega
        go_wp2
        go_ret
        exact ⟨⟨_, rfl⟩, rfl⟩

/-- The size test of the first law: it answers something. -/
theorem size5 (a1 a2 a4 : Option Addr) (n1 c1 n2 c2 n4 c4 : Nat) (t q : Int) (F : Nat → SV) (w : World) (hm1 : n1 ≤ maxLen) (hm2 : n2 ≤ maxLen) (hm4 : n4 ≤ maxLen) (hv : Vals w a2 n2 F) (hF : ∀ j, j < n2 → (F j).n ≤ maxLen) :
    Calls Try.prog 5 #[.slice a1 n1 c1, .slice a2 n2 c2, .int .u16 t, .slice a4 n4 c4, .int .u16 q] w fun e w' => (e = .returned (.bool true) ∨ e = .returned (.bool false)) ∧ w = w' := by
  unfold maxLen at hm1 hm2 hm4 hF
  by_cases g1 : n1 ≤ 1048576
  · by_cases g2 : n2 ≤ 1048576
    · by_cases g3 : n1 + n2 ≤ 1048576
      · go_enter Try.func5, Try.ntmps5
        go_wp2
        go_loop [11, 12] (fun z i => ∃ (k : Nat) (y : Int), k ≤ n2 ∧ 0 ≤ y ∧ y ≤ 1048576 ∧ i = .int .i64 k ∧ z = .int .i64 y) (fun _ i => n2 - (intOf i).toNat)
        case atStart => exact ⟨0, _, Nat.zero_le _, by omega, by omega, rfl, rfl⟩
        case round =>
          obtain ⟨k, y, hk, hy0, hy1, rfl, rfl⟩ := hrel
          by_cases hlt : k < n2
          · obtain ⟨b, off, rfl, hc⟩ := hv (by omega)
            have hcell := hc k hlt
            have hFk := hF k hlt
            by_cases g4 : (F k).n ≤ 1048576
            · by_cases g5 : y + (F k).n ≤ 1048576
              · go_wp2
                go_round
                case rel => exact ⟨k + 1, _, by omega, by omega, g5, by go_num, rfl⟩
                case measure => simp [intOf]; omega
              · go_wp2
                go_ret
                exact ⟨.inr rfl, rfl⟩
            · go_wp2
              go_ret
              exact ⟨.inr rfl, rfl⟩
          · obtain rfl : k = n2 := by omega
            by_cases g4 : n4 ≤ 1048576
            · by_cases g5 : y + n4 ≤ 1048576
              · go_wp2
                go_ret
                exact ⟨.inl rfl, rfl⟩
              · go_wp2
                go_ret
                exact ⟨.inr rfl, rfl⟩
            · go_wp2
              go_ret
              exact ⟨.inr rfl, rfl⟩
      · go_enter Try.func5, Try.ntmps5
        go_wp2
        go_ret
        exact ⟨.inr rfl, rfl⟩
    · go_enter Try.func5, Try.ntmps5
      go_wp2
      go_ret
      exact ⟨.inr rfl, rfl⟩
  · go_enter Try.func5, Try.ntmps5
    go_wp2
    go_ret
    exact ⟨.inr rfl, rfl⟩

end Go.Proofs.Qxb6632327a
