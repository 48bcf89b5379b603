/-
  The walk of FnParamFirstOfTagWins (3).
-/
import Derived.Test.Qxb6632327aApp
namespace Go.Proofs.Qxb6632327a
open Go.RowKit

theorem Tags.kept {w w' : World} {a : Option Addr} {n : Nat} {T : Nat → Int} (h : Tags w a n T) (hb : Below w.heap.size w w') : Tags w' a n T := fun h0 => by
  obtain ⟨b, off, e, hc⟩ := h h0
  exact ⟨b, off, e, fun j hj => by rw [hb.cell (p := ⟨b, off + j, none⟩) (World.block_lt_of_cell? w _ (hc j hj))]; exact hc j hj⟩
theorem Vals.kept {w w' : World} {a : Option Addr} {n : Nat} {F : Nat → SV} (h : Vals w a n F) (hb : Below w.heap.size w w') : Vals w' a n F := fun h0 => by
  obtain ⟨b, off, e, hc⟩ := h h0
  exact ⟨b, off, e, fun j hj => by rw [hb.cell (p := ⟨b, off + j, none⟩) (World.block_lt_of_cell? w _ (hc j hj))]; exact hc j hj⟩
theorem Byts.kept {w w' : World} {s : SV} (h : Byts w s) (hb : Below w.heap.size w w') : Byts w' s := by
  refine ⟨h.1, fun h0 => ?_⟩
  obtain ⟨b, off, f, e, hc⟩ := h.2 h0
  exact ⟨b, off, f, e, fun j hj => by rw [hb.cell (p := ⟨b, off + j, none⟩) (World.block_lt_of_cell? w _ (hc j hj))]; exact hc j hj⟩
theorem byts_nil (w : World) : Byts w nilSV := ⟨Nat.zero_le _, fun h => absurd h (by simp [nilSV])⟩
theorem byts_beside {w : World} {F : Nat → SV} {m : Nat} (h : ∀ j, j < m → Byts w (F j)) (j : Nat) : Byts w (beside F m j) := by
  unfold beside
  split
  · exact h j ‹_›
  · exact byts_nil w
theorem byts_look {w : World} {T : Nat → Int} {V : Nat → SV} (h : ∀ j, Byts w (V j)) (q : Int) : ∀ n, Byts w (look T V q n).1
  | 0 => byts_nil w
  | n + 1 => by
    have ih := byts_look (T := T) h q n
    unfold look
    split
    · exact ih
    · split
      · exact h n
      · exact byts_nil w

theorem first_size (a1 a2 a4 : Option Addr) (n1 c1 n2 c2 n4 c4 : Nat) (t q : Int) (F : Nat → SV) (w : World) (hm1 : n1 ≤ maxLen) (hm2 : n2 ≤ maxLen) (hm4 : n4 ≤ maxLen) (hv : Vals w a2 n2 F) (hF : ∀ j, j < n2 → (F j).n ≤ maxLen)
    (hbig : 65536 < n1 ∨ 65536 < n2 ∨ 1048576 < n4) :
    Calls Try.prog 3 #[.slice a1 n1 c1, .slice a2 n2 c2, .int .u16 t, .slice a4 n4 c4, .int .u16 q] w fun e w' => e = .returned (.bool true) ∧ Below w.heap.size w w' := by
  have h5 := size5 a1 a2 a4 n1 c1 n2 c2 n4 c4 t q F w hm1 hm2 hm4 hv hF
  unfold maxLen at hm1 hm2 hm4
  by_cases g1 : 65536 < n1
  · go_enter Try.func3, Try.ntmps3
    go_wp2_with fail
    refine h5.mono ?_
    rintro e w' ⟨rfl | rfl, rfl⟩
    · go_wp2_with fail
      go_ret
      exact ⟨rfl, Below.refl _ _⟩
    · go_wp2_with fail
      go_ret
      exact ⟨rfl, Below.refl _ _⟩
  · have d1 : decide ((65536 : Int) < n1) = false := by simp; omega
    by_cases g2 : 65536 < n2
    · go_enter Try.func3, Try.ntmps3
      go_wp2_with fail
      refine h5.mono ?_
      rintro e w' ⟨rfl | rfl, rfl⟩
      · go_wp2_with fail
        go_ret
        exact ⟨rfl, Below.refl _ _⟩
      · go_wp2_with fail
        go_ret
        exact ⟨rfl, Below.refl _ _⟩
    · have d2 : decide ((65536 : Int) < n2) = false := by simp; omega
      have g4 : 1048576 < n4 := by omega
      go_enter Try.func3, Try.ntmps3
      go_wp2_with fail
      refine h5.mono ?_
      rintro e w' ⟨rfl | rfl, rfl⟩
      · go_wp2_with fail
        go_ret
        exact ⟨rfl, Below.refl _ _⟩
      · go_wp2_with fail
        go_ret
        exact ⟨rfl, Below.refl _ _⟩

/-- 'append(ext, Param{t, s})': the one new parameter lies in a block of its own first. -/
theorem app_one (g cap : Nat) (t : Int) (s : SV) (T : Nat → Int) (V : Nat → SV) (w : World) (hr : Row w g cap 0 T V) (hc : 1 ≤ cap) (hcap : cap ≤ 2000000) :
    ∃ w1, (∀ ty, (Builtin.append_ #[28, 28] ty #[.slice (some ⟨g, 0, none⟩) 0 cap, .slice (some ⟨w.heap.size, 0, none⟩) 1 1]).run Try.prog (w.alloc (.cells #[.int .u16 t, .slice s.a s.n s.c] 32)) = .ok (.slice (some ⟨g, 0, none⟩) 1 cap) w1) ∧
      Row w1 g cap 1 (fun _ => t) (fun _ => s) ∧ Below g w w1 := by
  have hb : Below w.heap.size w (w.alloc (.cells #[.int .u16 t, .slice s.a s.n s.c] 32)) := (Below.refl _ w).alloc (Nat.le_refl _) _
  have hr' := hr.kept hb hr.lt
  have hs : Src (w.alloc (.cells #[.int .u16 t, .slice s.a s.n s.c] 32)) w.heap.size 1 (fun _ => t) (fun _ => s) := by
    intro i hi
    match i, hi with
    | 0, _ => simp [cellOf]
    | 1, _ => simp [cellOf]
  obtain ⟨w1, hrun, hrow, hb1⟩ := run_app g 0 cap w.heap.size 1 1 T (fun _ => t) V (fun _ => s) _ hr' hs (by omega) hcap
  refine ⟨w1, fun ty => ?_, ?_, (hb.mono (Nat.le_of_lt hr.lt)).trans hb1⟩
  · simpa using hrun ty
  · have e1 : cat 0 T (fun _ => t) = fun _ => t := by funext j; simp [cat]
    have e2 : cat 0 V (fun _ => s) = fun _ => s := by funext j; simp [cat]
    rw [e1, e2] at hrow
    simpa using hrow

set_option maxHeartbeats 2000000 in
theorem first_main (a1 a2 : Option Addr) (n1 c1 n2 c2 : Nat) (s : SV) (t q : Int) (T : Nat → Int) (F : Nat → SV) (w : World) (h1 : n1 ≤ 65536) (h2 : n2 ≤ 65536) (h4 : s.n ≤ 1048576)
    (ht : Tags w a1 n1 T) (hv : Vals w a2 n2 F) (hF : ∀ j, j < n2 → Byts w (F j)) (hs : Byts w s) :
    Calls Try.prog 3 #[.slice a1 n1 c1, .slice a2 n2 c2, .int .u16 t, .slice s.a s.n s.c, .int .u16 q] w fun e w' => e = .returned (.bool true) ∧ Below w.heap.size w w' := by
  have h5 := size5 a1 a2 s.a n1 c1 n2 c2 s.n s.c t q F w (by unfold maxLen; omega) (by unfold maxLen; omega) hs.1 hv (fun j hj => (hF j hj).1)
  have d1 : decide ((65536 : Int) < n1) = false := by simp; omega
  have d2 : decide ((65536 : Int) < n2) = false := by simp; omega
  have d4 : decide ((1048576 : Int) < s.n) = false := by simp; omega
  go_enter Try.func3, Try.ntmps3
  go_wp2_with fail
  refine h5.mono ?_
  clear h5
  rintro e w' ⟨rfl | rfl, rfl⟩
  · go_wp2_with fail
    refine (paramCost_any a1 a2 n1 c1 n2 c2 F w h1 h2 hv).mono ?_
    rintro e w' ⟨z, rfl, rfl⟩
    by_cases hz : 1048576 < wrap64 (z + s.n)
    · go_wp2_with fail
      go_ret
      exact ⟨rfl, Below.refl _ _⟩
    · go_wp2_with fail
      refine (build_any a1 a2 n1 c1 n2 c2 T F w h1 h2 ht hv).mono ?_
      rintro e w1 ⟨rfl, hr1, hb1⟩
      obtain ⟨w2, hmk, hr2', hb2⟩ := run_make0 (n1 + 1) w1 (by omega)
      rw [show ((n1 + 1 : Nat) : Int) = (n1 : Int) + 1 by omega] at hmk
      have hr2 := hr2' T (beside F n2)
      clear hr2'
      obtain ⟨w3, hap1, hr3, hb3⟩ := app_one w1.heap.size (n1 + 1) t s T (beside F n2) w2 hr2 (by omega) (by omega)
      have hb13 : Below w1.heap.size w1 w3 := hb2.trans hb3
      have hr13 := hr1.kept hb13 hr1.lt
      obtain ⟨w4, hap2, hr4, hb4⟩ := run_app w1.heap.size 1 (n1 + 1) w.heap.size n1 n1 _ T _ (beside F n2) w3 hr3 hr13.src (by omega) (by omega)
      have hb14 : Below w1.heap.size w1 w4 := hb13.trans hb4
      have hr14 := hr1.kept hb14 hr1.lt
      have hb04 : Below w.heap.size w w4 := hb1.trans (hb14.mono hb1.size)
      clear hr1 hb1 hb2 hb3 hb13 hr13 hb4 hr2 hr3 hb14
      go_wp2_with (first | (at_builtin; refine wpList_app rfl (.tmp 53) (.tmp 57) 28 rfl _ _ _ _ rfl rfl hap1 ?_) | (at_builtin; refine wpList_app rfl (.tmp 59) (.tmp 60) 28 rfl _ _ _ _ rfl rfl hap2 ?_))
      cases hqt : (q == t)
      · -- another tag
        obtain ⟨r, f, hl⟩ : ∃ r f, look T (beside F n2) q n1 = (r, f) := ⟨_, _, rfl⟩
        have hl2 : look (cat 1 (fun _ => t) T) (cat 1 (fun _ => s) (beside F n2)) q (1 + n1) = (r, f) := by
          have e : has (fun _ => t) q 1 = false := by
            have : (t == q) = false := by rw [beq_eq_false_iff_ne] at hqt ⊢; exact fun h => hqt h.symm
            simp [has, this]
          rw [look_cat, e]; simpa using hl
        have hhas : has T q n1 = f := by rw [← look_has T (beside F n2), hl]
        have hbr : Byts w r := by
          have := byts_look (T := T) (byts_beside hF) q n1
          rw [hl] at this; exact this
        have Hl : Hid (look T (beside F n2) q n1 = (r, f)) := hl
        clear hl
        refine (param_is (w4.heap.size + 1) w1.heap.size (n1 + 1) (1 + n1) (n1 + 1) q (cat 1 (fun _ => t) T) (cat 1 (fun _ => s) (beside F n2)) r f _ hl2 (by omega) (by simp) (hr4.kept (((Below.refl _ w4).alloc (Nat.le_refl _) _).alloc (by simp) _) hr4.lt)).mono ?_
        rintro e w6 ⟨rfl, hb6⟩
        have hb46 : Below w4.heap.size w4 w6 := (((Below.refl _ w4).alloc (Nat.le_refl _) _).alloc (by simp) _).trans (hb6.mono (by simp; omega))
        have hp6 : w6.cell? ⟨w4.heap.size, 12, none⟩ = some (.slice (some ⟨w.heap.size, 0, none⟩) n1 n1) := by
          rw [hb6.cell (p := ⟨w4.heap.size, 12, none⟩) (by simp; omega)]; simp
        have hr6 := hr14.kept hb46 hr14.lt
        have hb06 : Below w.heap.size w w6 := hb04.trans (hb46.mono hb04.size)
        clear hb6 hl2 hr4 hr14 hap1 hap2 hmk
        go_wp2_with fail
        refine (param_is w4.heap.size w.heap.size n1 n1 n1 q T (beside F n2) r f w6 Hl.out (by omega) hp6 hr6).mono ?_
        rintro e w7 ⟨rfl, hb7⟩
        have hb07 : Below w.heap.size w w7 := hb06.trans (hb7.mono hb06.size)
        have hff : (f == f) = true := by simp
        have HH : Hid (has T q n1 = f) := hhas
        clear hhas hp6 hr6 hb46 hb7
        go_wp2_with fail
        refine (contains_is a1 n1 c1 T q f w7 HH.out (by unfold maxLen; omega) (ht.kept hb07)).mono ?_
        rintro e w' ⟨rfl, rfl⟩
        go_wp2_with fail
        refine (sameAnswer_same r f w7 (hbr.kept hb07)).mono ?_
        rintro e w8 ⟨rfl, hb8⟩
        go_wp2_with fail
        go_ret
        exact ⟨rfl, hb07.trans (hb8.mono hb07.size)⟩
      · -- the tag itself
        obtain rfl : q = t := by simpa using hqt
        have hl2 : look (cat 1 (fun _ => q) T) (cat 1 (fun _ => s) (beside F n2)) q (1 + n1) = (s, true) := by
          rw [look_cat, if_pos (by simp [has])]
          simp [look]
        refine (param_is (w4.heap.size + 1) w1.heap.size (n1 + 1) (1 + n1) (n1 + 1) q (cat 1 (fun _ => q) T) (cat 1 (fun _ => s) (beside F n2)) s true _ hl2 (by omega) (by simp) (hr4.kept (((Below.refl _ w4).alloc (Nat.le_refl _) _).alloc (by simp) _) hr4.lt)).mono ?_
        rintro e w6 ⟨rfl, hb6⟩
        have hb46 : Below w4.heap.size w4 w6 := (((Below.refl _ w4).alloc (Nat.le_refl _) _).alloc (by simp) _).trans (hb6.mono (by simp; omega))
        have hb06 : Below w.heap.size w w6 := hb04.trans (hb46.mono hb04.size)
        have hne := fun w => Lib.run_eql_slice_nil (P := Try.prog) w 25 5 s.a s.n s.c 0 0 Try.underlying25
        have hq2 : (s.a.isNone == s.a.isNone) = true := by simp
        clear hb6 hl2 hr4 hr14 hap1 hap2 hmk
        go_wp2_with fail
        refine (bytesEq_same s w6 (hs.kept hb06)).mono ?_
        rintro e w8 ⟨rfl, hb8⟩
        go_wp2_with fail
        go_ret
        exact ⟨rfl, hb06.trans (hb8.mono hb06.size)⟩
  · go_wp2_with fail
    go_ret
    exact ⟨rfl, Below.refl _ _⟩

end Go.Proofs.Qxb6632327a
