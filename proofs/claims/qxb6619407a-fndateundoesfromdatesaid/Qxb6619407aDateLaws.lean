/-
  THE WALKS OF THE FOUR CALENDAR LAWS.
-/
import Derived.Test.Qxb6619407aFromDate
namespace Go.Proofs.Qxb6619407a
open Go.RowKit
set_option linter.unusedVariables false

theorem dayOf_bd (y m d : Int) (h1 : -100000000000 ≤ y) (h2 : y ≤ 100000000000) (m1 : 1 ≤ m) (m2 : m ≤ 12) (d1 : -1000 ≤ d) (d2 : d ≤ 1000) : -100000000000000 ≤ Cal.dayOf y m d ∧ Cal.dayOf y m d ≤ 100000000000000 := by
  have l := leaps_bd y h1 h2
  have b := dbm_bd m m1 m2
  unfold Cal.dayOf
  split <;> omega
/-- the date's year is not far -/
theorem dateY_bd (n : Int) (n1 : -2147483648 ≤ n) (n2 : n ≤ 2147483647) : -10000000 ≤ Cal.dateY n ∧ Cal.dateY n ≤ 10000000 := by
  have h := Cal.doe_bd n
  have h4 := Cal.yoe_lo (Cal.doe n) h.1 h.2
  have he : -15000 ≤ Cal.era n ∧ Cal.era n ≤ 15000 := by unfold Cal.era; omega
  unfold Cal.dateY
  split <;> omega

set_option maxHeartbeats 400000 in
theorem undo_date_walk (n : Int) (n1 : -2147483648 ≤ n) (n2 : n ≤ 2147483647) (w : World) :
    Calls Try.prog 8 #[.int .i32 n] w fun e w' => e = .returned (.bool true) ∧ w' = w := by
  obtain ⟨y1, y2⟩ := dateY_bd n n1 n2
  have hv : Hid _ := Cal.date_valid n
  have hd : Hid _ := Cal.date_day n
  go_enter Try.func8, Try.ntmps8
  go_wp2_with (first
    | (go_at_call 16; refine (zdate_any n n1 n2 _).mono ?_; rintro e w' ⟨rfl, rfl⟩)
    | (go_at_call 13; refine (valid_yes _ _ _ (by omega) (by omega) hv.out _).mono ?_; rintro e w' ⟨rfl, rfl⟩)
    | (go_at_call 15; refine (zfrom_any _ _ _ (by omega) (by omega) hv.out n hd.out n1 n2 _).mono ?_; rintro e w' ⟨rfl, rfl⟩))
  go_ret
  exact ⟨rfl, rfl⟩

set_option maxHeartbeats 400000 in
theorem counts_walk (y m d : Int) (w : World) :
    Calls Try.prog 5 #[.int .i64 y, .int .i64 m, .int .i64 d] w fun e w' => e = .returned (.bool true) ∧ w' = w := by
  by_cases h1 : y < -4294967296
  · go_enter Try.func5, Try.ntmps5
    go_wp2
    go_ret
    exact ⟨rfl, rfl⟩
  · by_cases h2 : 4294967296 < y
    · go_enter Try.func5, Try.ntmps5
      go_wp2
      go_ret
      exact ⟨rfl, rfl⟩
    · by_cases hv : Cal.valid y m d
      · have HV : Hid _ := hv
        obtain ⟨m1, m2, d1, d2⟩ := hv
        have hdim := Cal.dim_pos y m m1 m2
        have d3 : d ≤ 31 := by omega
        clear d2 hdim
        by_cases c1 : Cal.dayOf y m d < -2147483648
        · go_enter Try.func5, Try.ntmps5
          go_wp2_with (first
            | (go_at_call 13; refine (valid_yes y m d (by omega) (by omega) HV.out _).mono ?_; rintro e w' ⟨rfl, rfl⟩)
            | (go_at_call 14; refine (dayOf_any y m d (by omega) (by omega) m1 m2 (by omega) (by omega) _).mono ?_; rintro e w' ⟨rfl, rfl⟩))
          go_ret
          exact ⟨rfl, rfl⟩
        · by_cases c2 : 2147483647 < Cal.dayOf y m d
          · go_enter Try.func5, Try.ntmps5
            go_wp2_with (first
              | (go_at_call 13; refine (valid_yes y m d (by omega) (by omega) HV.out _).mono ?_; rintro e w' ⟨rfl, rfl⟩)
              | (go_at_call 14; refine (dayOf_any y m d (by omega) (by omega) m1 m2 (by omega) (by omega) _).mono ?_; rintro e w' ⟨rfl, rfl⟩))
            go_ret
            exact ⟨rfl, rfl⟩
          · go_enter Try.func5, Try.ntmps5
            go_wp2_with (first
              | (go_at_call 13; refine (valid_yes y m d (by omega) (by omega) HV.out _).mono ?_; rintro e w' ⟨rfl, rfl⟩)
              | (go_at_call 14; refine (dayOf_any y m d (by omega) (by omega) m1 m2 (by omega) (by omega) _).mono ?_; rintro e w' ⟨rfl, rfl⟩)
              | (go_at_call 15; refine (zfrom_any y m d (by omega) (by omega) HV.out _ rfl (by omega) (by omega) _).mono ?_; rintro e w' ⟨rfl, rfl⟩))
            go_ret
            exact ⟨rfl, rfl⟩
      · go_enter Try.func5, Try.ntmps5
        go_wp2_with (go_at_call 13; refine (valid_no y m d (by omega) (by omega) hv _).mono ?_; rintro e w' ⟨rfl, rfl⟩)
        go_ret
        exact ⟨rfl, rfl⟩

set_option maxHeartbeats 400000 in
theorem undo_from_walk (y m d : Int) (w : World) :
    Calls Try.prog 6 #[.int .i64 y, .int .i64 m, .int .i64 d] w fun e w' => e = .returned (.bool true) ∧ w' = w := by
  by_cases h1 : y < -4294967296
  · go_enter Try.func6, Try.ntmps6
    go_wp2
    go_ret
    exact ⟨rfl, rfl⟩
  · by_cases h2 : 4294967296 < y
    · go_enter Try.func6, Try.ntmps6
      go_wp2
      go_ret
      exact ⟨rfl, rfl⟩
    · by_cases hv : Cal.valid y m d
      · have HV : Hid _ := hv
        obtain ⟨m1, m2, d1, d2⟩ := hv
        have hdim := Cal.dim_pos y m m1 m2
        have d3 : d ≤ 31 := by omega
        clear d2 hdim
        by_cases c1 : Cal.dayOf y m d < -2147483648
        · go_enter Try.func6, Try.ntmps6
          go_wp2_with (first
            | (go_at_call 13; refine (valid_yes y m d (by omega) (by omega) HV.out _).mono ?_; rintro e w' ⟨rfl, rfl⟩)
            | (go_at_call 14; refine (dayOf_any y m d (by omega) (by omega) m1 m2 (by omega) (by omega) _).mono ?_; rintro e w' ⟨rfl, rfl⟩))
          go_ret
          exact ⟨rfl, rfl⟩
        · by_cases c2 : 2147483647 < Cal.dayOf y m d
          · go_enter Try.func6, Try.ntmps6
            go_wp2_with (first
              | (go_at_call 13; refine (valid_yes y m d (by omega) (by omega) HV.out _).mono ?_; rintro e w' ⟨rfl, rfl⟩)
              | (go_at_call 14; refine (dayOf_any y m d (by omega) (by omega) m1 m2 (by omega) (by omega) _).mono ?_; rintro e w' ⟨rfl, rfl⟩))
            go_ret
            exact ⟨rfl, rfl⟩
          · obtain ⟨u1, u2, u3⟩ := Cal.uniq _ _ _ _ _ _ (Cal.date_valid (Cal.dayOf y m d)) HV.out (Cal.date_day (Cal.dayOf y m d))
            go_enter Try.func6, Try.ntmps6
            go_wp2_with (first
              | (go_at_call 13; refine (valid_yes y m d (by omega) (by omega) HV.out _).mono ?_; rintro e w' ⟨rfl, rfl⟩)
              | (go_at_call 14; refine (dayOf_any y m d (by omega) (by omega) m1 m2 (by omega) (by omega) _).mono ?_; rintro e w' ⟨rfl, rfl⟩)
              | (go_at_call 15; refine (zfrom_any y m d (by omega) (by omega) HV.out _ rfl (by omega) (by omega) _).mono ?_; rintro e w' ⟨rfl, rfl⟩)
              | (go_at_call 16; refine (zdate_any _ (by omega) (by omega) _).mono ?_; rintro e w' ⟨rfl, rfl⟩))
            go_ret
            exact ⟨rfl, rfl⟩
      · go_enter Try.func6, Try.ntmps6
        go_wp2_with (go_at_call 13; refine (valid_no y m d (by omega) (by omega) hv _).mono ?_; rintro e w' ⟨rfl, rfl⟩)
        go_ret
        exact ⟨rfl, rfl⟩
end Go.Proofs.Qxb6619407a
