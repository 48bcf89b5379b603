/-
  digitsEnd (13), zzIsDigit (9), the size tests (5, 8).
-/
import Derived.Test.Qxb6632361aRows
import Derived.Test.Qxb6632361aPlain
import Derived.WalkKit
import Derived.WalkSpells
import Derived.WideShapes
import Derived.Deep.DeepCutAuto
import Derived.Outline
namespace Go.Proofs.Qxb6632361a
open Go.RowKit

theorem ret_int {k : IntKind} {a b : Int} (h : a = b) : Ending.returned (.int k a) = .returned (.int k b) := by rw [h]
theorem ret_bool {a b : Bool} (h : a = b) : Ending.returned (.bool a) = .returned (.bool b) := by rw [h]

/-- n bytes from an address on hold f. -/
def Seg (w : World) (b off n : Nat) (f : Nat → Int) : Prop := ∀ j, j < n → w.cell? ⟨b, off + j, none⟩ = some (.int .u8 (f j))

set_option maxHeartbeats 1000000 in
theorem digits_any (b off n c i : Nat) (f : Nat → Int) (w : World) (hn : n ≤ 1048576) (hi : i ≤ n) (hs : Seg w b off n f) :
    Calls Try.prog 13 #[.slice (some ⟨b, off, none⟩) n c, .int .i64 (i : Int)] w fun e w' => e = .returned (.int .i64 (digEnd f n i : Nat)) ∧ w = w' := by
  go_enter Try.func13, Try.ntmps13
  go_wp2
  go_loop [1] (fun t => ∃ k : Nat, k ≤ n ∧ t = .int .i64 k ∧ Hid (digEnd f n i = digEnd f n k)) (fun t => n - (intOf t).toNat)
  case atStart => exact ⟨i, hi, rfl, rfl⟩
  case round =>
    obtain ⟨k, hk, rfl, hq⟩ := hrel
    by_cases hlt : k < n
    · have hcell := hs k hlt
      by_cases h1 : 48 ≤ f k
      · by_cases h2 : f k ≤ 57
        · have hd : Hid (digEnd f n i = digEnd f n (k + 1)) := hq.out.trans (digEnd_step f n k hlt (dig_yes h1 h2))
          go_wp2
          go_round
          case rel => exact ⟨k + 1, by omega, by go_num, hd⟩
          case measure => simp [intOf]; omega
        · have hd : Hid (digEnd f n i = k) := hq.out.trans (digEnd_stop f n k (dig_no (by omega)))
          go_wp2
          go_ret
          exact ⟨ret_int (by rw [hd.out]), rfl⟩
      · have hd : Hid (digEnd f n i = k) := hq.out.trans (digEnd_stop f n k (dig_no (by omega)))
        have hd1 : decide (48 ≤ f k) = false := by simpa using h1
        go_wp2
        go_ret
        exact ⟨ret_int (by rw [hd.out]), rfl⟩
    · have hd : Hid (digEnd f n i = k) := hq.out.trans (digEnd_end f n k (by omega))
      have hd1 : decide ((k : Int) < (n : Int)) = false := by simp; omega
      go_wp2
      go_ret
      exact ⟨ret_int (by rw [hd.out]), rfl⟩

theorem isDigit_any (x : Int) (w : World) : Calls Try.prog 9 #[.int .u8 x] w fun e w' => e = .returned (.bool (dig x)) ∧ w = w' := by
  by_cases h1 : 48 ≤ x
  · by_cases h2 : x ≤ 57
    · have hd : dig x = true := dig_yes h1 h2
      go_enter Try.func9, Try.ntmps9
      go_wp2
      go_ret
      first | exact ⟨rfl, rfl⟩ | exact ⟨ret_bool hd.symm, rfl⟩
    · have hd : dig x = false := dig_no (by omega)
      go_enter Try.func9, Try.ntmps9
      go_wp2
      go_ret
      first | exact ⟨rfl, rfl⟩ | exact ⟨ret_bool hd.symm, rfl⟩
  · have hd : dig x = false := dig_no (by omega)
    have hd1 : decide (48 ≤ x) = false := by simpa using h1
    go_enter Try.func9, Try.ntmps9
    go_wp2
    go_ret
    first | exact ⟨rfl, rfl⟩ | exact ⟨ret_bool hd.symm, rfl⟩

/-- The same, its answer named. -/
theorem isDigit_is (x : Int) (d : Bool) (w : World) (h : dig x = d) : Calls Try.prog 9 #[.int .u8 x] w fun e w' => e = .returned (.bool d) ∧ w = w' := by
  have := isDigit_any x w
  rw [h] at this
  exact this

theorem size5_yes (a : Option Addr) (n c : Nat) (k : Int) (w : World) (h : n ≤ 1048576) :
    Calls Try.prog 5 #[.slice a n c, .int .i64 k] w fun e w' => e = .returned (.bool true) ∧ w = w' := by
  go_enter Try.func5, Try.ntmps5
  go_wp2
  go_ret
  exact ⟨rfl, rfl⟩

theorem size5_no (a : Option Addr) (n c : Nat) (k : Int) (w : World) (h : ¬ n ≤ 1048576) (hn : n ≤ maxLen) :
    Calls Try.prog 5 #[.slice a n c, .int .i64 k] w fun e w' => e = .returned (.bool false) ∧ w = w' := by
  unfold maxLen at hn
  go_enter Try.func5, Try.ntmps5
  go_wp2
  go_ret
  exact ⟨rfl, rfl⟩

theorem size8_yes (a : Option Addr) (n c : Nat) (k v : Int) (w : World) (h : n ≤ 1048576) :
    Calls Try.prog 8 #[.slice a n c, .int .i64 k, .int .i64 v] w fun e w' => e = .returned (.bool true) ∧ w = w' := by
  go_enter Try.func8, Try.ntmps8
  go_wp2
  go_ret
  exact ⟨rfl, rfl⟩

theorem size8_no (a : Option Addr) (n c : Nat) (k v : Int) (w : World) (h : ¬ n ≤ 1048576) (hn : n ≤ maxLen) :
    Calls Try.prog 8 #[.slice a n c, .int .i64 k, .int .i64 v] w fun e w' => e = .returned (.bool false) ∧ w = w' := by
  unfold maxLen at hn
  go_enter Try.func8, Try.ntmps8
  go_wp2
  go_ret
  exact ⟨rfl, rfl⟩

end Go.Proofs.Qxb6632361a
