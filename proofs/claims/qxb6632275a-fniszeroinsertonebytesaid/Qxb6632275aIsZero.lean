/-
  The contract of sphinx.isZero (function 9), sphinx.ZZisZero (6) and the two size tests (5, 7).
-/
import Derived.Test.Qxb6632275aRows
import Derived.WalkKit
import Derived.Laws.CopyOwn
namespace Go.Proofs.Qxb6632275a
open Go.RowKit

/-- The first n numbers of f are all zero. -/
def allZ (f : Nat → Int) : Nat → Bool
  | 0 => true
  | n + 1 => allZ f n && (f n == 0)

theorem or_zero (a b : Int) (h1 : 0 ≤ a) (h2 : a ≤ 255) (h3 : 0 ≤ b) (h4 : b ≤ 255) :
    0 ≤ bits .or .u8 a b ∧ bits .or .u8 a b ≤ 255 ∧ ((bits .or .u8 a b == 0) = ((a == 0) && (b == 0))) := by
  rw [u8_or a b h1 (by omega) h3 (by omega)]
  have hlt : a.toNat ||| b.toNat < 2 ^ 8 := Nat.or_lt_two_pow (by omega) (by omega)
  refine ⟨by omega, by omega, ?_⟩
  rw [Bool.eq_iff_iff]
  simp only [beq_iff_eq, Bool.and_eq_true]
  have h0 : a.toNat ||| b.toNat = 0 ↔ a.toNat = 0 ∧ b.toNat = 0 := Nat.or_eq_zero_iff
  omega

theorem ret_bool {a b : Bool} (h : a = b) : Ending.returned (.bool a) = .returned (.bool b) := by rw [h]

/-- A row of bytes: if it has an element, it begins at a plain address and holds f. -/
def Seg (w : World) (a : Option Addr) (n : Nat) (f : Nat → Int) : Prop :=
  0 < n → ∃ b off, a = some ⟨b, off, none⟩ ∧ ∀ j, j < n → w.cell? ⟨b, off + j, none⟩ = some (.int .u8 (f j))

theorem isZero_none (a : Option Addr) (c : Nat) (w : World) :
    Calls Try.prog 9 #[.slice a 0 c] w fun e w' => e = .returned (.bool true) ∧ w = w' := by
  go_enter Try.func9, Try.ntmps9
  go_wp2
  refine wp_loop_rounds 1 ?_
  rw [rounds_succ]
  go_wp2
  go_ret
  exact ⟨rfl, rfl⟩

set_option maxHeartbeats 400000 in
theorem isZero_row (b off n c : Nat) (f : Nat → Int) (w : World) (hn : n ≤ 2000000) (hf : ∀ j, 0 ≤ f j ∧ f j ≤ 255)
    (hc : ∀ j, j < n → w.cell? ⟨b, off + j, none⟩ = some (.int .u8 (f j))) :
    Calls Try.prog 9 #[.slice (some ⟨b, off, none⟩) n c] w fun e w' => e = .returned (.bool (allZ f n)) ∧ w = w' := by
  go_enter Try.func9, Try.ntmps9
  go_wp2
  go_loop [3, 8] (fun t i => ∃ (k : Nat) (q : Int), k ≤ n ∧ 0 ≤ q ∧ q ≤ 255 ∧ i = .int .i64 k ∧ t = .int .u8 q ∧ Hid ((q == 0) = allZ f k)) (fun _ i => n - (intOf i).toNat)
  case atStart => exact ⟨0, 0, Nat.zero_le _, by omega, by omega, rfl, rfl, rfl⟩
  case round =>
    obtain ⟨k, q, hk, hq0, hq1, rfl, rfl, hq⟩ := hrel
    by_cases hlt : k < n
    · have hcell := hc k hlt
      have hfk := hf k
      have ho : Hid (0 ≤ bits .or .u8 q (f k) ∧ bits .or .u8 q (f k) ≤ 255 ∧ ((bits .or .u8 q (f k) == 0) = ((q == 0) && (f k == 0)))) := or_zero q (f k) hq0 hq1 hfk.1 hfk.2
      go_wp2
      go_round
      case rel => exact ⟨k + 1, _, by omega, ho.out.1, ho.out.2.1, by go_num, rfl, by rw [ho.out.2.2, hq.out]; rfl⟩
      case measure => simp [intOf]; omega
    · have hkn : k = n := by omega
      subst hkn
      go_wp2
      go_ret
      exact ⟨ret_bool hq.out, rfl⟩

theorem isZero_any (a : Option Addr) (n c : Nat) (f : Nat → Int) (w : World) (hn : n ≤ 2000000) (hf : ∀ j, 0 ≤ f j ∧ f j ≤ 255) (hs : Seg w a n f) :
    Calls Try.prog 9 #[.slice a n c] w fun e w' => e = .returned (.bool (allZ f n)) ∧ w = w' := by
  by_cases h0 : n = 0
  · subst h0
    exact isZero_none a c w
  · obtain ⟨b, off, rfl, hc⟩ := hs (by omega)
    exact isZero_row b off n c f w hn hf hc

theorem ZZisZero_any (a : Option Addr) (n c : Nat) (f : Nat → Int) (w : World) (hn : n ≤ 2000000) (hf : ∀ j, 0 ≤ f j ∧ f j ≤ 255) (hs : Seg w a n f) :
    Calls Try.prog 6 #[.slice a n c] w fun e w' => e = .returned (.bool (allZ f n)) ∧ w = w' := by
  have h9 := isZero_any a n c f w hn hf hs
  go_enter Try.func6, Try.ntmps6
  go_wp2_with fail
  refine h9.mono ?_
  rintro e w' ⟨rfl, rfl⟩
  go_wp2
  go_ret
  exact ⟨rfl, rfl⟩

theorem size5_yes (a : Option Addr) (n c : Nat) (k : Int) (w : World) (h : n ≤ 1048576) :
    Calls Try.prog 5 #[.slice a n c, .int .i64 k] w fun e w' => e = .returned (.bool true) ∧ w = w' := by
  go_enter Try.func5, Try.ntmps5
  go_wp2
  go_ret
  exact ⟨rfl, rfl⟩

theorem size5_no (a : Option Addr) (n c : Nat) (k : Int) (w : World) (h : ¬ n ≤ 1048576) (hn : n ≤ maxLen) :
    Calls Try.prog 5 #[.slice a n c, .int .i64 k] w fun e w' => e = .returned (.bool false) ∧ w = w' := by
  unfold maxLen at hn
  go_enter Try.func5, Try.ntmps5
  go_wp2
  go_ret
  exact ⟨rfl, rfl⟩

theorem size7_yes (a : Option Addr) (n c : Nat) (k v : Int) (w : World) (h : n ≤ 1048576) :
    Calls Try.prog 7 #[.slice a n c, .int .i64 k, .int .u8 v] w fun e w' => e = .returned (.bool true) ∧ w = w' := by
  go_enter Try.func7, Try.ntmps7
  go_wp2
  go_ret
  exact ⟨rfl, rfl⟩

theorem size7_no (a : Option Addr) (n c : Nat) (k v : Int) (w : World) (h : ¬ n ≤ 1048576) (hn : n ≤ maxLen) :
    Calls Try.prog 7 #[.slice a n c, .int .i64 k, .int .u8 v] w fun e w' => e = .returned (.bool false) ∧ w = w' := by
  unfold maxLen at hn
  go_enter Try.func7, Try.ntmps7
  go_wp2
  go_ret
  exact ⟨rfl, rfl⟩

end Go.Proofs.Qxb6632275a
