/-
  What the walks of this seat speak of: slices of tags, of values, of bytes; the small callees 10, 9, 11, 6, 5.
-/
import Derived.Test.Qxb6632327aRows
import Derived.WalkKit
import Derived.WalkSpells
import Derived.WideShapes
import Derived.Deep.QuietTactic
import Derived.BigQuiet
import Derived.Outline
namespace Go.Proofs.Qxb6632327a
open Go.RowKit

/-- A slice value: its address, its length, its capacity. -/
structure SV where
  a : Option Addr
  n : Nat
  c : Nat
def nilSV : SV := ⟨none, 0, 0⟩

/-- A slice of n tags that hold T. -/
def Tags (w : World) (a : Option Addr) (n : Nat) (T : Nat → Int) : Prop :=
  0 < n → ∃ b off, a = some ⟨b, off, none⟩ ∧ ∀ j, j < n → w.cell? ⟨b, off + j, none⟩ = some (.int .u16 (T j))
/-- A slice of n slices that hold F. -/
def Vals (w : World) (a : Option Addr) (n : Nat) (F : Nat → SV) : Prop :=
  0 < n → ∃ b off, a = some ⟨b, off, none⟩ ∧ ∀ j, j < n → w.cell? ⟨b, off + j, none⟩ = some (.slice (F j).a (F j).n (F j).c)
/-- A slice value leads to its bytes. -/
def Byts (w : World) (s : SV) : Prop :=
  s.n ≤ maxLen ∧ (0 < s.n → ∃ b off, ∃ f : Nat → Int, s.a = some ⟨b, off, none⟩ ∧ ∀ j, j < s.n → w.cell? ⟨b, off + j, none⟩ = some (.int .u8 (f j)))

/-- The answer of Param over the first n parameters. -/
def look (T : Nat → Int) (V : Nat → SV) (q : Int) : Nat → SV × Bool
  | 0 => (nilSV, false)
  | n + 1 => if (look T V q n).2 = true then look T V q n else if T n = q then (V n, true) else (nilSV, false)
/-- Is q among the first n tags? -/
def has (T : Nat → Int) (q : Int) : Nat → Bool
  | 0 => false
  | n + 1 => has T q n || (T n == q)

theorem look_has (T : Nat → Int) (V : Nat → SV) (q : Int) : ∀ n, (look T V q n).2 = has T q n
  | 0 => rfl
  | n + 1 => by
    have h := look_has T V q n
    simp only [look, has]
    cases hh : has T q n
    · rw [hh] at h
      rw [if_neg (by simp [h])]
      by_cases e : T n = q
      · simp [e]
      · simp [e]
    · rw [hh] at h
      simp [h]

theorem has_mono {T : Nat → Int} {q : Int} {k n : Nat} (h : has T q k = true) (hk : k ≤ n) : has T q n = true := by
  induction n with
  | zero => obtain rfl : k = 0 := by omega
            exact h
  | succ n ih =>
    by_cases e : k = n + 1
    · subst e; exact h
    · simp [has, ih (by omega)]

theorem look_mono {T : Nat → Int} {V : Nat → SV} {q : Int} {k n : Nat} (h : has T q k = true) (hk : k ≤ n) : look T V q n = look T V q k := by
  induction n with
  | zero => obtain rfl : k = 0 := by omega
            rfl
  | succ n ih =>
    by_cases e : k = n + 1
    · subst e; rfl
    · have h1 := has_mono h (show k ≤ n by omega)
      rw [look, if_pos (by rw [look_has]; exact h1)]
      exact ih (by omega)

theorem look_none {T : Nat → Int} {V : Nat → SV} {q : Int} {n : Nat} (h : has T q n = false) : look T V q n = (nilSV, false) := by
  cases n with
  | zero => rfl
  | succ n =>
    simp only [has, Bool.or_eq_false_iff, beq_eq_false_iff_ne] at h
    rw [look, if_neg (by rw [look_has]; simp [h.1]), if_neg h.2]

theorem look_hit {T : Nat → Int} {V : Nat → SV} {q : Int} {k : Nat} (h : has T q k = false) (e : T k = q) : look T V q (k + 1) = (V k, true) := by
  rw [look, if_neg (by rw [look_has]; simp [h]), if_pos e]

theorem ret_bool {a b : Bool} (h : a = b) : Ending.returned (.bool a) = .returned (.bool b) := by rw [h]

/-! ### containsTag (10) -/
set_option maxHeartbeats 400000 in
theorem contains_any (a : Option Addr) (n c : Nat) (T : Nat → Int) (q : Int) (w : World) (hn : n ≤ maxLen) (ht : Tags w a n T) :
    Calls Try.prog 10 #[.slice a n c, .int .u16 q] w fun e w' => e = .returned (.bool (has T q n)) ∧ w = w' := by
  unfold maxLen at hn
  go_enter Try.func10, Try.ntmps10
  go_wp2
  go_loop [5] (fun i => ∃ k : Nat, k ≤ n ∧ i = .int .i64 k ∧ Hid (has T q k = false)) (fun i => n - (intOf i).toNat)
  case atStart => exact ⟨0, Nat.zero_le _, rfl, rfl⟩
  case round =>
    obtain ⟨k, hk, rfl, hno⟩ := hrel
    by_cases hlt : k < n
    · obtain ⟨b, off, rfl, hc⟩ := ht (by omega)
      have hcell := hc k hlt
      cases heq : (T k == q)
      · go_wp2
        go_round
        case rel => exact ⟨k + 1, by omega, by go_num, show has T q (k + 1) = false by simp [has, hno.out, heq]⟩
        case measure => simp [intOf]; omega
      · have hyes : has T q n = true := has_mono (k := k + 1) (by simp [has, heq]) (by omega)
        go_wp2
        go_ret
        exact ⟨rfl, rfl⟩
    · obtain rfl : k = n := by omega
      have hno' : has T q k = false := hno.out
      go_wp2
      go_ret
      exact ⟨rfl, rfl⟩

/-- The same, its answer named. -/
theorem contains_is (a : Option Addr) (n c : Nat) (T : Nat → Int) (q : Int) (f : Bool) (w : World) (hf : has T q n = f) (hn : n ≤ maxLen) (ht : Tags w a n T) :
    Calls Try.prog 10 #[.slice a n c, .int .u16 q] w fun e w' => e = .returned (.bool f) ∧ w = w' := by
  have h := contains_any a n c T q w hn ht
  rw [hf] at h
  exact h

end Go.Proofs.Qxb6632327a
