/-
  The size test (12) and the walk of FnParamConcat (4).
-/
import Derived.Test.Qxb6632327aFirst
namespace Go.Proofs.Qxb6632327a
open Go.RowKit

set_option maxHeartbeats 1000000 in
theorem size12 (a1 a2 a3 a4 : Option Addr) (n1 c1 n2 c2 n3 c3 n4 c4 : Nat) (q : Int) (F G : Nat → SV) (w : World) (hm1 : n1 ≤ maxLen) (hm2 : n2 ≤ maxLen) (hm3 : n3 ≤ maxLen) (hm4 : n4 ≤ maxLen)
    (hv : Vals w a2 n2 F) (hF : ∀ j, j < n2 → (F j).n ≤ maxLen) (hv4 : Vals w a4 n4 G) (hG : ∀ j, j < n4 → (G j).n ≤ maxLen) :
    Calls Try.prog 12 #[.slice a1 n1 c1, .slice a2 n2 c2, .slice a3 n3 c3, .slice a4 n4 c4, .int .u16 q] w fun e w' => (e = .returned (.bool true) ∨ e = .returned (.bool false)) ∧ w = w' := by
  unfold maxLen at hm1 hm2 hm3 hm4 hF hG
  by_cases g1 : n1 ≤ 1048576
  · by_cases g2 : n2 ≤ 1048576
    · by_cases g3 : n1 + n2 ≤ 1048576
      · go_enter Try.func12, Try.ntmps12
        go_wp2
        go_loop [11, 12] (fun z i => ∃ (k : Nat) (y : Int), k ≤ n2 ∧ 0 ≤ y ∧ y ≤ 1048576 ∧ i = .int .i64 k ∧ z = .int .i64 y) (fun _ i => n2 - (intOf i).toNat)
        case atStart => exact ⟨0, _, Nat.zero_le _, by omega, by omega, rfl, rfl⟩
        case round =>
          obtain ⟨k, y, hk, hy0, hy1, rfl, rfl⟩ := hrel
          by_cases hlt : k < n2
          · obtain ⟨b, off, rfl, hc⟩ := hv (by omega)
            have hcell := hc k hlt
            have hFk := hF k hlt
            by_cases g4 : (F k).n ≤ 1048576
            · by_cases g5 : y + (F k).n ≤ 1048576
              · go_wp2
                go_round
                case rel => exact ⟨k + 1, _, by omega, by omega, g5, by go_num, rfl⟩
                case measure => simp [intOf]; omega
              · go_wp2
                go_ret
                exact ⟨.inr rfl, rfl⟩
            · go_wp2
              go_ret
              exact ⟨.inr rfl, rfl⟩
          · obtain rfl : k = n2 := by omega
            by_cases g4 : n3 ≤ 1048576
            · by_cases g5 : y + n3 ≤ 1048576
              · by_cases g6 : n4 ≤ 1048576
                · by_cases g7 : y + n3 + n4 ≤ 1048576
                  · go_wp2
                    go_loop [11, 13] (fun z i => ∃ (k : Nat) (y : Int), k ≤ n4 ∧ 0 ≤ y ∧ y ≤ 1048576 ∧ i = .int .i64 k ∧ z = .int .i64 y) (fun _ i => n4 - (intOf i).toNat)
                    case atStart => exact ⟨0, _, Nat.zero_le _, by omega, g7, rfl, rfl⟩
                    case round =>
                      clear g7 g5 hy0 hy1
                      obtain ⟨j, y, hk, hy0, hy1, rfl, rfl⟩ := hrel
                      by_cases hlt : j < n4
                      · obtain ⟨b, off, rfl, hc⟩ := hv4 (by omega)
                        have hcell := hc j hlt
                        have hGk := hG j hlt
                        by_cases g4 : (G j).n ≤ 1048576
                        · by_cases g5 : y + (G j).n ≤ 1048576
                          · go_wp2
                            go_round
                            case rel => exact ⟨j + 1, _, by omega, by omega, g5, by go_num, rfl⟩
                            case measure => simp [intOf]; omega
                          · go_wp2
                            go_ret
                            exact ⟨.inr rfl, rfl⟩
                        · go_wp2
                          go_ret
                          exact ⟨.inr rfl, rfl⟩
                      · obtain rfl : j = n4 := by omega
                        go_wp2
                        go_ret
                        exact ⟨.inl rfl, rfl⟩
                  · go_wp2
                    go_ret
                    exact ⟨.inr rfl, rfl⟩
                · go_wp2
                  go_ret
                  exact ⟨.inr rfl, rfl⟩
              · go_wp2
                go_ret
                exact ⟨.inr rfl, rfl⟩
            · go_wp2
              go_ret
              exact ⟨.inr rfl, rfl⟩
      · go_enter Try.func12, Try.ntmps12
        go_wp2
        go_ret
        exact ⟨.inr rfl, rfl⟩
    · go_enter Try.func12, Try.ntmps12
      go_wp2
      go_ret
      exact ⟨.inr rfl, rfl⟩
  · go_enter Try.func12, Try.ntmps12
    go_wp2
    go_ret
    exact ⟨.inr rfl, rfl⟩

theorem app_zero (g cap b m c : Nat) (T0 T : Nat → Int) (V0 V : Nat → SV) (w : World) (hr : Row w g cap 0 T0 V0) (hs : Src w b m T V) (hf : m ≤ cap) (hcap : cap ≤ 2000000) :
    ∃ w1, (∀ ty, (Builtin.append_ #[28, 28] ty #[.slice (some ⟨g, 0, none⟩) 0 cap, .slice (some ⟨b, 0, none⟩) m c]).run Try.prog w = .ok (.slice (some ⟨g, 0, none⟩) m cap) w1) ∧
      Row w1 g cap m T V ∧ Below g w w1 := by
  obtain ⟨w1, hrun, hrow, hb1⟩ := run_app g 0 cap b m c T0 T V0 V w hr hs (by omega) hcap
  refine ⟨w1, fun ty => ?_, ?_, hb1⟩
  · have := hrun ty
    rw [Nat.zero_add] at this
    exact this
  · have e1 : cat 0 T0 T = T := by funext j; simp [cat]
    have e2 : cat 0 V0 V = V := by funext j; simp [cat]
    rw [e1, e2, Nat.zero_add] at hrow
    exact hrow

theorem concat_size (a1 a2 a3 a4 : Option Addr) (n1 c1 n2 c2 n3 c3 n4 c4 : Nat) (q : Int) (F G : Nat → SV) (w : World) (hm1 : n1 ≤ maxLen) (hm2 : n2 ≤ maxLen) (hm3 : n3 ≤ maxLen) (hm4 : n4 ≤ maxLen)
    (hv : Vals w a2 n2 F) (hF : ∀ j, j < n2 → (F j).n ≤ maxLen) (hv4 : Vals w a4 n4 G) (hG : ∀ j, j < n4 → (G j).n ≤ maxLen) (hbig : 65536 < n1 ∨ 65536 < n2 ∨ 65536 < n3 ∨ 65536 < n4) :
    Calls Try.prog 4 #[.slice a1 n1 c1, .slice a2 n2 c2, .slice a3 n3 c3, .slice a4 n4 c4, .int .u16 q] w fun e w' => e = .returned (.bool true) ∧ Below w.heap.size w w' := by
  have h12 := size12 a1 a2 a3 a4 n1 c1 n2 c2 n3 c3 n4 c4 q F G w hm1 hm2 hm3 hm4 hv hF hv4 hG
  unfold maxLen at hm1 hm2 hm3 hm4
  by_cases g1 : 65536 < n1
  · go_enter Try.func4, Try.ntmps4
    go_wp2_with fail
    refine h12.mono ?_
    rintro e w' ⟨rfl | rfl, rfl⟩
    all_goals
      go_wp2_with fail
      go_ret
      exact ⟨rfl, Below.refl _ _⟩
  · have d1 : decide ((65536 : Int) < n1) = false := by simp; omega
    by_cases g2 : 65536 < n2
    · go_enter Try.func4, Try.ntmps4
      go_wp2_with fail
      refine h12.mono ?_
      rintro e w' ⟨rfl | rfl, rfl⟩
      all_goals
        go_wp2_with fail
        go_ret
        exact ⟨rfl, Below.refl _ _⟩
    · have d2 : decide ((65536 : Int) < n2) = false := by simp; omega
      by_cases g3 : 65536 < n3
      · go_enter Try.func4, Try.ntmps4
        go_wp2_with fail
        refine h12.mono ?_
        rintro e w' ⟨rfl | rfl, rfl⟩
        all_goals
          go_wp2_with fail
          go_ret
          exact ⟨rfl, Below.refl _ _⟩
      · have d3 : decide ((65536 : Int) < n3) = false := by simp; omega
        have g4 : 65536 < n4 := by omega
        go_enter Try.func4, Try.ntmps4
        go_wp2_with fail
        refine h12.mono ?_
        rintro e w' ⟨rfl | rfl, rfl⟩
        all_goals
          go_wp2_with fail
          go_ret
          exact ⟨rfl, Below.refl _ _⟩

set_option maxHeartbeats 4000000 in
theorem concat_main (a1 a2 a3 a4 : Option Addr) (n1 c1 n2 c2 n3 c3 n4 c4 : Nat) (q : Int) (T U : Nat → Int) (F G : Nat → SV) (w : World) (h1 : n1 ≤ 65536) (h2 : n2 ≤ 65536) (h3 : n3 ≤ 65536) (h4 : n4 ≤ 65536)
    (ht : Tags w a1 n1 T) (hv : Vals w a2 n2 F) (hF : ∀ j, j < n2 → Byts w (F j)) (hu : Tags w a3 n3 U) (hv4 : Vals w a4 n4 G) (hG : ∀ j, j < n4 → Byts w (G j)) :
    Calls Try.prog 4 #[.slice a1 n1 c1, .slice a2 n2 c2, .slice a3 n3 c3, .slice a4 n4 c4, .int .u16 q] w fun e w' => e = .returned (.bool true) ∧ Below w.heap.size w w' := by
  have h12 := size12 a1 a2 a3 a4 n1 c1 n2 c2 n3 c3 n4 c4 q F G w (by unfold maxLen; omega) (by unfold maxLen; omega) (by unfold maxLen; omega) (by unfold maxLen; omega) hv (fun j hj => (hF j hj).1) hv4 (fun j hj => (hG j hj).1)
  have d1 : decide ((65536 : Int) < n1) = false := by simp; omega
  have d2 : decide ((65536 : Int) < n2) = false := by simp; omega
  have d3 : decide ((65536 : Int) < n3) = false := by simp; omega
  have d4 : decide ((65536 : Int) < n4) = false := by simp; omega
  go_enter Try.func4, Try.ntmps4
  go_wp2_with fail
  refine h12.mono ?_
  clear h12
  rintro e w' ⟨rfl | rfl, rfl⟩
  · go_wp2_with fail
    refine (paramCost_any a1 a2 n1 c1 n2 c2 F w h1 h2 hv).mono ?_
    rintro e w' ⟨z, rfl, rfl⟩
    by_cases hz : 1048576 < z
    · go_wp2_with fail
      go_ret
      exact ⟨rfl, Below.refl _ _⟩
    · go_wp2_with fail
      refine (paramCost_any a3 a4 n3 c3 n4 c4 G w h3 h4 hv4).mono ?_
      rintro e w' ⟨z2, rfl, rfl⟩
      by_cases hz2 : 1048576 < z2
      · go_wp2_with fail
        go_ret
        exact ⟨rfl, Below.refl _ _⟩
      · have e2 : decide (1048576 < z2) = false := by simpa using hz2
        by_cases hz3 : 1048576 < wrap64 (z + z2)
        · go_wp2_with fail
          go_ret
          exact ⟨rfl, Below.refl _ _⟩
        · go_wp2_with fail
          refine (build_any a1 a2 n1 c1 n2 c2 T F w h1 h2 ht hv).mono ?_
          rintro e w1 ⟨rfl, hr1, hb1⟩
          go_wp2_with fail
          refine (build_any a3 a4 n3 c3 n4 c4 U G w1 h3 h4 (hu.kept hb1) (hv4.kept hb1)).mono ?_
          rintro e w2 ⟨rfl, hr2, hb2⟩
          obtain ⟨w3, hmk, hr3', hb3⟩ := run_make0 (n1 + n3) w2 (by omega)
          rw [show ((n1 + n3 : Nat) : Int) = (n1 : Int) + n3 by omega] at hmk
          have hr3 := hr3' T (beside F n2)
          clear hr3'
          have hr23 := hr2.kept hb3 hr2.lt
          have hr12 := hr1.kept hb2 hr1.lt
          have hr13 := hr12.kept hb3 hr12.lt
          obtain ⟨w4, hap1, hr4, hb4⟩ := app_zero w2.heap.size (n1 + n3) w.heap.size n1 n1 _ T _ (beside F n2) w3 hr3 hr13.src (by omega) (by omega)
          have hb24 : Below w2.heap.size w2 w4 := hb3.trans hb4
          have hr24 := hr2.kept hb24 hr2.lt
          obtain ⟨w5, hap2, hr5, hb5⟩ := run_app w2.heap.size n1 (n1 + n3) w1.heap.size n3 n3 T U (beside F n2) (beside G n4) w4 hr4 hr24.src (by omega) (by omega)
          have hb25 : Below w2.heap.size w2 w5 := hb24.trans hb5
          have hrA := hr12.kept hb25 hr12.lt
          have hrB := hr2.kept hb25 hr2.lt
          have hb02 : Below w.heap.size w w2 := hb1.trans (hb2.mono hb1.size)
          have hb05 : Below w.heap.size w w5 := hb02.trans (hb25.mono hb02.size)
          clear hr1 hb1 hb2 hr2 hb3 hr3 hr23 hr12 hr13 hr4 hb4 hb24 hr24 hb5 hb25 hb02
          go_wp2_with (first | (at_builtin; refine wpList_app rfl (.tmp 78) (.tmp 79) 28 rfl _ _ _ _ rfl rfl hap1 ?_) | (at_builtin; refine wpList_app rfl (.tmp 81) (.tmp 82) 28 rfl _ _ _ _ rfl rfl hap2 ?_))
          obtain ⟨ra, fa, hlA⟩ : ∃ r f, look T (beside F n2) q n1 = (r, f) := ⟨_, _, rfl⟩
          obtain ⟨rb, fb, hlB⟩ : ∃ r f, look U (beside G n4) q n3 = (r, f) := ⟨_, _, rfl⟩
          have hhA : has T q n1 = fa := by rw [← look_has T (beside F n2), hlA]
          have hhB : has U q n3 = fb := by rw [← look_has U (beside G n4), hlB]
          have hlC := look_cat T U (beside F n2) (beside G n4) q n1 n3
          rw [hhA, hlA, hlB] at hlC
          have hba : Byts w ra := by
            have := byts_look (T := T) (byts_beside hF) q n1
            rw [hlA] at this; exact this
          have hbb : Byts w rb := by
            have := byts_look (T := U) (byts_beside hG) q n3
            rw [hlB] at this; exact this
          have HA : Hid (has T q n1 = fa) := hhA
          have HB : Hid (has U q n3 = fb) := hhB
          have HlB : Hid (look U (beside G n4) q n3 = (rb, fb)) := hlB
          have HlC : Hid (look (cat n1 T U) (cat n1 (beside F n2) (beside G n4)) q (n1 + n3) = if fa = true then (ra, fa) else (rb, fb)) := hlC
          clear hhA hhB hlB hlC hap1 hap2 hmk
          refine (param_is w5.heap.size w.heap.size n1 n1 n1 q T (beside F n2) ra fa _ hlA (by omega) ?hp1 ?hr1).mono ?_
          case hp1 => rw [World.cell?_alloc_past _ _ _ (by simp; omega), World.cell?_alloc_past _ _ _ (by simp)]; simp
          case hr1 => exact hrA.kept ((((Below.refl _ w5).alloc (Nat.le_refl _) _).alloc (by simp) _).alloc (by simp; omega) _) hrA.lt
          clear hlA
          rintro e w6 ⟨rfl, hb6⟩
          have hb56 : Below w5.heap.size w5 w6 := ((((Below.refl _ w5).alloc (Nat.le_refl _) _).alloc (by simp) _).alloc (by simp; omega) _).trans (hb6.mono (by simp; omega))
          have hp2 : w6.cell? ⟨w5.heap.size + 1, 12, none⟩ = some (.slice (some ⟨w1.heap.size, 0, none⟩) n3 n3) := by
            rw [hb6.cell (p := ⟨w5.heap.size + 1, 12, none⟩) (by simp)]; simp [World.cell?_alloc_past]
          have hp3 : w6.cell? ⟨w5.heap.size + 1 + 1, 12, none⟩ = some (.slice (some ⟨w2.heap.size, 0, none⟩) (n1 + n3) (n1 + n3)) := by
            rw [hb6.cell (p := ⟨w5.heap.size + 1 + 1, 12, none⟩) (by simp), World.cell?_alloc_at _ _ _ _ (by simp)]; simp
          have hs6 : w5.heap.size + 1 + 1 < w6.heap.size := by have := hb6.size; simp at this; omega
          have hrB6 := hrB.kept hb56 hrB.lt
          have hrC6 := hr5.kept hb56 hr5.lt
          have hb06 : Below w.heap.size w w6 := hb05.trans (hb56.mono hb05.size)
          clear hb6 hb56 hrA hrB hr5 hb05
          go_wp2_with fail
          refine (param_is (w5.heap.size + 1) w1.heap.size n3 n3 n3 q U (beside G n4) rb fb w6 HlB.out (by omega) hp2 hrB6).mono ?_
          rintro e w7 ⟨rfl, hb7⟩
          have hp37 : w7.cell? ⟨w5.heap.size + 1 + 1, 12, none⟩ = some (.slice (some ⟨w2.heap.size, 0, none⟩) (n1 + n3) (n1 + n3)) := by
            rw [hb7.cell (p := ⟨w5.heap.size + 1 + 1, 12, none⟩) hs6]; exact hp3
          have hrC7 := hrC6.kept hb7 hrC6.lt
          have hb07 : Below w.heap.size w w7 := hb06.trans (hb7.mono hb06.size)
          clear hb7 hp2 hp3 hrB6 hrC6 hb06
          go_wp2_with fail
          cases fa
          · have HlD : Hid (look (cat n1 T U) (cat n1 (beside F n2) (beside G n4)) q (n1 + n3) = (rb, fb)) := HlC.out
            have hff : (fb != fb) = false := by simp
            refine (param_is (w5.heap.size + 1 + 1) w2.heap.size (n1 + n3) (n1 + n3) (n1 + n3) q (cat n1 T U) (cat n1 (beside F n2) (beside G n4)) rb fb w7 HlD.out (by omega) hp37 hrC7).mono ?_
            rintro e w8 ⟨rfl, hb8⟩
            have hb08 : Below w.heap.size w w8 := hb07.trans (hb8.mono hb07.size)
            clear hb8 hp37 hrC7
            go_wp2_with fail
            refine (contains_is a1 n1 c1 T q false w8 HA.out (by unfold maxLen; omega) (ht.kept hb08)).mono ?_
            rintro e w' ⟨rfl, rfl⟩
            go_wp2_with fail
            refine (contains_is a3 n3 c3 U q fb w8 HB.out (by unfold maxLen; omega) (hu.kept hb08)).mono ?_
            rintro e w' ⟨rfl, rfl⟩
            go_wp2_with fail
            refine (sameAnswer_same rb fb w8 (hbb.kept hb08)).mono ?_
            rintro e w9 ⟨rfl, hb9⟩
            go_wp2_with fail
            go_ret
            exact ⟨rfl, hb08.trans (hb9.mono hb08.size)⟩
          · have HlD : Hid (look (cat n1 T U) (cat n1 (beside F n2) (beside G n4)) q (n1 + n3) = (ra, true)) := HlC.out
            refine (param_is (w5.heap.size + 1 + 1) w2.heap.size (n1 + n3) (n1 + n3) (n1 + n3) q (cat n1 T U) (cat n1 (beside F n2) (beside G n4)) ra true w7 HlD.out (by omega) hp37 hrC7).mono ?_
            rintro e w8 ⟨rfl, hb8⟩
            have hb08 : Below w.heap.size w w8 := hb07.trans (hb8.mono hb07.size)
            clear hb8 hp37 hrC7
            go_wp2_with fail
            refine (contains_is a1 n1 c1 T q true w8 HA.out (by unfold maxLen; omega) (ht.kept hb08)).mono ?_
            rintro e w' ⟨rfl, rfl⟩
            go_wp2_with fail
            refine (sameAnswer_same ra true w8 (hba.kept hb08)).mono ?_
            rintro e w9 ⟨rfl, hb9⟩
            go_wp2_with fail
            go_ret
            exact ⟨rfl, hb08.trans (hb9.mono hb08.size)⟩
  · go_wp2_with fail
    go_ret
    exact ⟨rfl, Below.refl _ _⟩

end Go.Proofs.Qxb6632327a
