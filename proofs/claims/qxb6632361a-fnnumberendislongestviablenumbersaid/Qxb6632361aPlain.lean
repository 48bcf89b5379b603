/-
  The plain mathematics of this seat: the automaton of JSON numbers, its run, what a cut does to it, and what numberEnd's own steps come to. No Go in sight.
-/
namespace Go.Proofs.Qxb6632361a

/-- A byte that is a decimal digit. -/
def dig (b : Int) : Bool := decide (48 ≤ b) && decide (b ≤ 57)
theorem dig_iff {b : Int} : dig b = true ↔ 48 ≤ b ∧ b ≤ 57 := by simp [dig]
theorem dig_yes {b : Int} (h : 48 ≤ b) (h' : b ≤ 57) : dig b = true := dig_iff.2 ⟨h, h'⟩
theorem dig_no {b : Int} (h : ¬ (48 ≤ b ∧ b ≤ 57)) : dig b = false := by
  rw [Bool.eq_false_iff]; exact fun e => h (dig_iff.1 e)

/-- One step of the automaton. -/
def stp (s b : Int) : Int :=
  if s = 0 then (if b = 45 then 1 else if b = 48 then 2 else if dig b = true then 3 else -1)
  else if s = 1 then (if b = 48 then 2 else if dig b = true then 3 else -1)
  else if s = 2 then (if b = 46 then 4 else if b = 101 ∨ b = 69 then 6 else -1)
  else if s = 3 then (if dig b = true then 3 else if b = 46 then 4 else if b = 101 ∨ b = 69 then 6 else -1)
  else if s = 4 then (if dig b = true then 5 else -1)
  else if s = 5 then (if dig b = true then 5 else if b = 101 ∨ b = 69 then 6 else -1)
  else if s = 6 then (if b = 43 ∨ b = 45 then 7 else if dig b = true then 8 else -1)
  else if s = 7 then (if dig b = true then 8 else -1)
  else if s = 8 then (if dig b = true then 8 else -1)
  else -1

/-- The prefix read so far is a whole number. -/
def acc (s : Int) : Bool := s == 2 || s == 3 || s == 5 || s == 8

/-- The run from state s at place j over at most m bytes. -/
def run (f : Nat → Int) : Nat → Int → Nat → Int × Nat
  | 0, s, j => (s, j)
  | m + 1, s, j => if stp s (f j) < 0 then (s, j) else run f m (stp s (f j)) (j + 1)

def fin (p : Int × Nat) : Int := if acc p.1 = true then (p.2 : Int) else -1
/-- The automaton's answer from state s at place j. -/
def res (f : Nat → Int) (n : Nat) (s : Int) (j : Nat) : Int := fin (run f (n - j) s j)

theorem res_end (f : Nat → Int) (n : Nat) (s : Int) (j : Nat) (h : n ≤ j) : res f n s j = fin (s, j) := by
  unfold res; rw [show n - j = 0 by omega]; rfl
theorem res_stop (f : Nat → Int) (n : Nat) (s : Int) (j : Nat) (h : stp s (f j) < 0) : res f n s j = fin (s, j) := by
  unfold res
  cases hm : n - j with
  | zero => rfl
  | succ m => simp [run, h]
theorem res_step (f : Nat → Int) (n : Nat) (s t : Int) (j : Nat) (h : j < n) (e : stp s (f j) = t) (ht : 0 ≤ t) : res f n s j = res f n t (j + 1) := by
  unfold res
  obtain ⟨m, hm⟩ : ∃ m, n - j = m + 1 := ⟨n - j - 1, by omega⟩
  rw [hm, show n - (j + 1) = m by omega, run, e, if_neg (by omega)]

/-! ### Digits -/
/-- Where there are no more digits. -/
def digE (f : Nat → Int) : Nat → Nat → Nat
  | 0, j => j
  | m + 1, j => if dig (f j) = true then digE f m (j + 1) else j
def digEnd (f : Nat → Int) (n j : Nat) : Nat := digE f (n - j) j

theorem digEnd_end (f : Nat → Int) (n j : Nat) (h : n ≤ j) : digEnd f n j = j := by unfold digEnd; rw [show n - j = 0 by omega]; rfl
theorem digEnd_step (f : Nat → Int) (n j : Nat) (h : j < n) (hd : dig (f j) = true) : digEnd f n j = digEnd f n (j + 1) := by
  unfold digEnd
  obtain ⟨m, hm⟩ : ∃ m, n - j = m + 1 := ⟨n - j - 1, by omega⟩
  rw [hm, show n - (j + 1) = m by omega, digE, if_pos hd]
theorem digEnd_stop (f : Nat → Int) (n j : Nat) (hd : dig (f j) = false) : digEnd f n j = j := by
  unfold digEnd
  cases hm : n - j with
  | zero => rfl
  | succ m => simp [digE, hd]

/-- j lies behind all digits. -/
def Behind (f : Nat → Int) (n j : Nat) : Prop := n ≤ j ∨ dig (f j) = false

theorem digEnd_spec (f : Nat → Int) (n : Nat) : ∀ m j, n - j = m → j ≤ n → j ≤ digEnd f n j ∧ digEnd f n j ≤ n ∧ Behind f n (digEnd f n j)
  | 0, j, hm, hj => by
    rw [digEnd_end f n j (by omega)]
    exact ⟨Nat.le_refl _, hj, .inl (by omega)⟩
  | m + 1, j, hm, hj => by
    cases hd : dig (f j)
    · rw [digEnd_stop f n j hd]
      exact ⟨Nat.le_refl _, hj, .inr hd⟩
    · rw [digEnd_step f n j (by omega) hd]
      obtain ⟨h1, h2, h3⟩ := digEnd_spec f n m (j + 1) (by omega) (by omega)
      exact ⟨by omega, h2, h3⟩
theorem digEnd_le (f : Nat → Int) (n j : Nat) (h : j ≤ n) : digEnd f n j ≤ n := (digEnd_spec f n _ j rfl h).2.1
theorem digEnd_ge (f : Nat → Int) (n j : Nat) (h : j ≤ n) : j ≤ digEnd f n j := (digEnd_spec f n _ j rfl h).1
theorem digEnd_behind (f : Nat → Int) (n j : Nat) (h : j ≤ n) : Behind f n (digEnd f n j) := (digEnd_spec f n _ j rfl h).2.2

/-- A state that digits keep. -/
theorem res_digits (f : Nat → Int) (n : Nat) (s : Int) (hs : ∀ b, dig b = true → stp s b = s) (h0 : 0 ≤ s) : ∀ m j, n - j = m → j ≤ n → res f n s j = res f n s (digEnd f n j)
  | 0, j, hm, hj => by rw [digEnd_end f n j (by omega)]
  | m + 1, j, hm, hj => by
    cases hd : dig (f j)
    · rw [digEnd_stop f n j hd]
    · rw [digEnd_step f n j (by omega) hd, res_step f n s s j (by omega) (hs _ hd) h0]
      exact res_digits f n s hs h0 m (j + 1) (by omega) (by omega)

theorem dig_ne {b : Int} (h : dig b = true) : ¬ b = 45 ∧ ¬ b = 46 ∧ ¬ b = 101 ∧ ¬ b = 69 ∧ ¬ b = 43 := by
  rw [dig_iff] at h; omega

/-! ### numberEnd's own steps -/
theorem minus_yes (f : Nat → Int) (n i : Nat) (h : i < n) (e : f i = 45) : res f n 0 i = res f n 1 (i + 1) := res_step f n 0 1 i h (by simp [stp, e]) (by omega)
theorem minus_no (f : Nat → Int) (n i : Nat) (h : i < n) (e : ¬ f i = 45) : res f n 0 i = res f n 1 i := by
  have es : stp 0 (f i) = stp 1 (f i) := by simp [stp, e]
  by_cases hs : stp 1 (f i) < 0
  · rw [res_stop f n 1 i hs, res_stop f n 0 i (by rw [es]; exact hs)]; rfl
  · rw [res_step f n 1 _ i h rfl (by omega), res_step f n 0 _ i h es (by omega)]

theorem lead_zero (f : Nat → Int) (n i : Nat) (h : i < n) (e : f i = 48) : res f n 1 i = res f n 2 (i + 1) := res_step f n 1 2 i h (by simp [stp, e]) (by omega)
theorem lead_none (f : Nat → Int) (n i : Nat) (h : n ≤ i ∨ ¬ (48 ≤ f i ∧ f i ≤ 57)) : res f n 1 i = -1 := by
  rcases h with h | h
  · rw [res_end f n 1 i h]; rfl
  · have hd := dig_no h
    rw [res_stop f n 1 i (by
      have : ¬ f i = 48 := by omega
      simp [stp, hd, this])]; rfl
/-- State 3 behind its digits goes on as state 2. -/
theorem three_two (f : Nat → Int) (n j : Nat) (h : Behind f n j) : res f n 3 j = res f n 2 j := by
  rcases h with h | h
  · rw [res_end f n 3 j h, res_end f n 2 j h]; rfl
  · have es : stp 3 (f j) = stp 2 (f j) := by simp [stp, h]
    by_cases hs : stp 2 (f j) < 0
    · rw [res_stop f n 2 j hs, res_stop f n 3 j (by rw [es]; exact hs)]; rfl
    · by_cases hj : j < n
      · rw [res_step f n 2 _ j hj rfl (by omega), res_step f n 3 _ j hj es (by omega)]
      · rw [res_end f n 3 j (by omega), res_end f n 2 j (by omega)]; rfl
theorem lead_digits (f : Nat → Int) (n i : Nat) (h : i < n) (h1 : 49 ≤ f i) (h2 : f i ≤ 57) : res f n 1 i = res f n 2 (digEnd f n (i + 1)) := by
  have hd : dig (f i) = true := dig_yes (by omega) h2
  have hne : ¬ f i = 48 := by omega
  rw [res_step f n 1 3 i h (by simp [stp, hd, hne]) (by omega), res_digits f n 3 (fun b hb => by simp [stp, hb]) (by omega) _ (i + 1) rfl (by omega)]
  exact three_two f n _ (digEnd_behind f n _ (by omega))

/-- What is left behind the fraction: an exponent, or nothing. -/
def expo (f : Nat → Int) (n j : Nat) : Int := if j < n ∧ (f j = 101 ∨ f j = 69) then res f n 6 (j + 1) else j
theorem frac_none (f : Nat → Int) (n j : Nat) (h : n ≤ j ∨ ¬ f j = 46) : res f n 2 j = expo f n j := by
  unfold expo
  by_cases hj : j < n
  · have hd : ¬ f j = 46 := by omega
    by_cases he : f j = 101 ∨ f j = 69
    · rw [if_pos ⟨hj, he⟩]; exact res_step f n 2 6 j hj (by simp only [stp, if_neg hd, if_pos he]; simp) (by omega)
    · rw [if_neg (fun h => he h.2), res_stop f n 2 j (by simp only [stp, if_neg hd, if_neg he]; simp)]; rfl
  · rw [if_neg (fun h => hj h.1), res_end f n 2 j (by omega)]; rfl
theorem five_expo (f : Nat → Int) (n j : Nat) (h : Behind f n j) : res f n 5 j = expo f n j := by
  unfold expo
  by_cases hj : j < n
  · have hd : dig (f j) = false := h.resolve_left (by omega)
    by_cases he : f j = 101 ∨ f j = 69
    · rw [if_pos ⟨hj, he⟩]; exact res_step f n 5 6 j hj (by simp only [stp, hd, if_pos he]; simp) (by omega)
    · rw [if_neg (fun h => he h.2), res_stop f n 5 j (by simp only [stp, hd, if_neg he]; simp)]; rfl
  · rw [if_neg (fun h => hj h.1), res_end f n 5 j (by omega)]; rfl
/-- A point with no digit behind it. -/
theorem frac_bad (f : Nat → Int) (n j : Nat) (h : j < n) (e : f j = 46) (hd : digEnd f n (j + 1) = j + 1) : res f n 2 j = -1 := by
  rw [res_step f n 2 4 j h (by simp [stp, e]) (by omega)]
  have hb := digEnd_behind f n (j + 1) (by omega)
  rw [hd] at hb
  rcases hb with hb | hb
  · rw [res_end f n 4 _ hb]; rfl
  · rw [res_stop f n 4 _ (by simp [stp, hb])]; rfl
theorem frac_good (f : Nat → Int) (n j : Nat) (h : j < n) (e : f j = 46) (hd : ¬ digEnd f n (j + 1) = j + 1) : res f n 2 j = expo f n (digEnd f n (j + 1)) := by
  rw [res_step f n 2 4 j h (by simp [stp, e]) (by omega)]
  by_cases hj : j + 1 < n
  · cases hb : dig (f (j + 1))
    · exact absurd (digEnd_stop f n _ hb) hd
    · rw [res_step f n 4 5 (j + 1) hj (by simp [stp, hb]) (by omega), digEnd_step f n _ hj hb, res_digits f n 5 (fun b hb => by simp [stp, hb]) (by omega) _ (j + 1 + 1) rfl (by omega)]
      exact five_expo f n _ (digEnd_behind f n _ (by omega))
  · exact absurd (digEnd_end f n _ (by omega)) hd

theorem expo_none (f : Nat → Int) (n j : Nat) (h : ¬ (j < n ∧ (f j = 101 ∨ f j = 69))) : expo f n j = j := by unfold expo; rw [if_neg h]
theorem expo_some (f : Nat → Int) (n j : Nat) (h : j < n) (he : f j = 101 ∨ f j = 69) : expo f n j = res f n 6 (j + 1) := by unfold expo; rw [if_pos ⟨h, he⟩]
theorem sign_yes (f : Nat → Int) (n j : Nat) (h : j < n) (e : f j = 43 ∨ f j = 45) : res f n 6 j = res f n 7 (j + 1) := res_step f n 6 7 j h (by simp [stp, e]) (by omega)
theorem sign_no (f : Nat → Int) (n j : Nat) (h : n ≤ j ∨ ¬ (f j = 43 ∨ f j = 45)) : res f n 6 j = res f n 7 j := by
  by_cases hj : j < n
  · have e := h.resolve_left (by omega)
    have es : stp 6 (f j) = stp 7 (f j) := by simp [stp, e]
    by_cases hs : stp 7 (f j) < 0
    · rw [res_stop f n 7 j hs, res_stop f n 6 j (by rw [es]; exact hs)]; rfl
    · rw [res_step f n 7 _ j hj rfl (by omega), res_step f n 6 _ j hj es (by omega)]
  · rw [res_end f n 6 j (by omega), res_end f n 7 j (by omega)]; rfl
theorem eight_end (f : Nat → Int) (n j : Nat) (h : Behind f n j) : res f n 8 j = j := by
  rcases h with h | h
  · rw [res_end f n 8 j h]; rfl
  · rw [res_stop f n 8 j (by simp [stp, h])]; rfl
theorem exp_bad (f : Nat → Int) (n j : Nat) (hj : j ≤ n) (hd : digEnd f n j = j) : res f n 7 j = -1 := by
  have hb := digEnd_behind f n j hj
  rw [hd] at hb
  rcases hb with hb | hb
  · rw [res_end f n 7 _ hb]; rfl
  · rw [res_stop f n 7 _ (by simp [stp, hb])]; rfl
theorem exp_good (f : Nat → Int) (n j : Nat) (hd : ¬ digEnd f n j = j) : res f n 7 j = digEnd f n j := by
  by_cases hj : j < n
  · cases hb : dig (f j)
    · exact absurd (digEnd_stop f n _ hb) hd
    · rw [res_step f n 7 8 j hj (by simp [stp, hb]) (by omega), digEnd_step f n _ hj hb, res_digits f n 8 (fun b hb => by simp [stp, hb]) (by omega) _ (j + 1) rfl (by omega)]
      exact eight_end f n _ (digEnd_behind f n _ (by omega))
  · exact absurd (digEnd_end f n _ (by omega)) hd

/-! ### The answer's bounds, and the cut -/
/-- Every live state behind a step is accepting just where the byte was a digit. -/
theorem stp_acc (s b : Int) (h : 0 ≤ stp s b) : acc (stp s b) = dig b := by
  revert h
  unfold stp
  cases hd : dig b
  · have h48 : ¬ b = 48 := fun e => by rw [e] at hd; exact absurd hd (by decide)
    simp only [h48, if_false, Bool.false_eq_true]
    repeat' split
    all_goals (intro h; first | rfl | omega)
  · have hn := dig_ne hd
    simp only [hn.1, hn.2.1, hn.2.2.1, hn.2.2.2.1, hn.2.2.2.2, or_self, if_true, if_false]
    repeat' split
    all_goals (intro h; first | rfl | omega)

/-- What the run comes to: it ends inside, and behind its first byte its state is accepting just where the last byte is a digit. -/
theorem run_facts (f : Nat → Int) : ∀ m s j, j ≤ (run f m s j).2 ∧ (run f m s j).2 ≤ j + m ∧ (j < (run f m s j).2 → acc (run f m s j).1 = dig (f ((run f m s j).2 - 1))) ∧ ((run f m s j).2 = j → (run f m s j).1 = s)
  | 0, s, j => ⟨Nat.le_refl _, Nat.le_refl _, fun h => absurd h (by simp [run]), fun _ => rfl⟩
  | m + 1, s, j => by
    by_cases hs : stp s (f j) < 0
    · simp only [run, if_pos hs]
      exact ⟨Nat.le_refl _, by omega, fun h => absurd h (by omega), fun _ => trivial⟩
    · simp only [run, if_neg hs]
      obtain ⟨h1, h2, h3, h4⟩ := run_facts f m (stp s (f j)) (j + 1)
      refine ⟨by omega, by omega, fun _ => ?_, fun h => absurd h (by omega)⟩
      by_cases e : (run f m (stp s (f j)) (j + 1)).2 = j + 1
      · rw [h4 e, e]
        exact stp_acc s (f j) (by omega)
      · exact h3 (by omega)

/-- A shorter run: the same end where that lies within it; else it ends at its own end. -/
theorem run_cut (f : Nat → Int) : ∀ m k s j, k ≤ m → ((run f m s j).2 ≤ j + k → run f k s j = run f m s j) ∧ (j + k < (run f m s j).2 → (run f k s j).2 = j + k)
  | m, 0, s, j, _ => by
    refine ⟨fun h => ?_, fun _ => rfl⟩
    have hf := run_facts f m s j
    have e : (run f m s j).2 = j := by omega
    exact Prod.ext (hf.2.2.2 e).symm e.symm
  | 0, k + 1, s, j, h => absurd h (by omega)
  | m + 1, k + 1, s, j, h => by
    by_cases hs : stp s (f j) < 0
    · simp only [run, if_pos hs]
      exact ⟨fun _ => trivial, fun h => by omega⟩
    · simp only [run, if_neg hs]
      obtain ⟨h1, h2⟩ := run_cut f m k (stp s (f j)) (j + 1) (by omega)
      exact ⟨fun h => h1 (by omega), fun h => by have := h2 (by omega); omega⟩

/-- THE LAW OF THE CUT, in numbers: r the answer over n bytes, rc over the first c. -/
theorem cut_law (f : Nat → Int) (n i c : Nat) (hi : i < n) (hc : i < c) (hcn : c ≤ n) :
    (∃ r : Nat, res f n 0 i = r ∧ i < r ∧ r ≤ n ∧ dig (f (r - 1)) = true ∧ (r ≤ c → res f c 0 i = r) ∧ (c < r → res f c 0 i = if dig (f (c - 1)) = true then (c : Int) else -1)) ∨
    (res f n 0 i = -1 ∧ (res f c 0 i = -1 ∨ (res f c 0 i = c ∧ dig (f (c - 1)) = true))) := by
  obtain ⟨h1, h2, h3, h4⟩ := run_facts f (n - i) 0 i
  obtain ⟨c1, c2⟩ := run_cut f (n - i) (c - i) 0 i (by omega)
  obtain ⟨k1, k2, k3, k4⟩ := run_facts f (c - i) 0 i
  rw [show i + (c - i) = c by omega] at c1 c2
  have hcut : c < (run f (n - i) 0 i).2 → res f c 0 i = if dig (f (c - 1)) = true then (c : Int) else -1 := by
    intro h
    have e := c2 h
    have ea := k3 (by omega)
    unfold res fin
    rw [ea, e]
  cases ha : acc (run f (n - i) 0 i).1
  · right
    have hr : res f n 0 i = -1 := by unfold res fin; rw [ha]; rfl
    refine ⟨hr, ?_⟩
    by_cases hle : (run f (n - i) 0 i).2 ≤ c
    · left
      have := c1 hle
      unfold res at hr ⊢
      rw [this]; exact hr
    · have := hcut (by omega)
      cases hd : dig (f (c - 1))
      · left; rw [this, hd]; rfl
      · right; rw [this, hd]; exact ⟨rfl, rfl⟩
  · left
    have hne : ¬ (run f (n - i) 0 i).2 = i := fun e => by
      rw [h4 e] at ha; exact absurd ha (by decide)
    have hr : res f n 0 i = (run f (n - i) 0 i).2 := by unfold res fin; rw [ha]; rfl
    refine ⟨(run f (n - i) 0 i).2, hr, by omega, by omega, ?_, fun hle => ?_, hcut⟩
    · rw [← h3 (by omega)]; exact ha
    · have := c1 hle
      unfold res at hr ⊢
      rw [this]; exact hr

end Go.Proofs.Qxb6632361a
