/-
  THE CONTRACTS OF zzDaysInMonth, zzDaysBeforeMonth, zzLeapsBefore, zzDayOf, zzValidDate.
-/
import Derived.Test.Qxb6619407aDayWalks
import Derived.Deep.RegionWith
namespace Go.Proofs.Qxb6619407a
open Go.RowKit
set_option linter.unusedVariables false

theorem month_cases (m : Int) (h1 : 1 ≤ m) (h2 : m ≤ 12) : m = 1 ∨ m = 2 ∨ m = 3 ∨ m = 4 ∨ m = 5 ∨ m = 6 ∨ m = 7 ∨ m = 8 ∨ m = 9 ∨ m = 10 ∨ m = 11 ∨ m = 12 := by omega

set_option maxHeartbeats 800000 in
theorem dim_any (y m : Int) (h1 : -1000000000000 ≤ y) (h2 : y ≤ 1000000000000) (m1 : 1 ≤ m) (m2 : m ≤ 12) (w : World) :
    Calls Try.prog 18 #[.int .i64 y, .int .i64 m] w fun e w' => e = .returned (.int .i64 (Cal.dim y m)) ∧ w' = w := by
  rcases month_cases m m1 m2 with rfl | rfl | rfl | rfl | rfl | rfl | rfl | rfl | rfl | rfl | rfl | rfl
  case inr.inl =>
    cases hl : Cal.lpB y
    · have hr : Hid (28 = Cal.dim y 2) := by show _ = _; simp [Cal.dim, Cal.lp, hl]
      go_enter Try.func18, Try.ntmps18
      go_wp2_with (go_at_call 21; refine (leap_any y h1 h2 _).mono ?_; rintro e w' ⟨rfl, rfl⟩)
      go_ret
      exact ⟨reti hr.out, rfl⟩
    · have hr : Hid (29 = Cal.dim y 2) := by show _ = _; simp [Cal.dim, Cal.lp, hl]
      go_enter Try.func18, Try.ntmps18
      go_wp2_with (go_at_call 21; refine (leap_any y h1 h2 _).mono ?_; rintro e w' ⟨rfl, rfl⟩)
      go_ret
      exact ⟨reti hr.out, rfl⟩
  all_goals
    go_enter Try.func18, Try.ntmps18
    go_wp2
    go_ret
    exact ⟨reti (by simp [Cal.dim]), rfl⟩

set_option maxHeartbeats 800000 in
theorem dbm_any (m : Int) (m1 : 1 ≤ m) (m2 : m ≤ 12) (w : World) :
    Calls Try.prog 20 #[.int .i64 m] w fun e w' => e = .returned (.int .i64 (Cal.dbm m)) ∧ w' = w := by
  rcases month_cases m m1 m2 with rfl | rfl | rfl | rfl | rfl | rfl | rfl | rfl | rfl | rfl | rfl | rfl
  all_goals
    go_enter Try.func20, Try.ntmps20
    go_wp2
    go_ret
    exact ⟨reti (by simp [Cal.dbm]), rfl⟩

set_option maxHeartbeats 400000 in
theorem leaps_any (y : Int) (h1 : -100000000000 ≤ y) (h2 : y ≤ 100000000000) (w : World) :
    Calls Try.prog 19 #[.int .i64 y] w fun e w' => e = .returned (.int .i64 (Cal.leaps y)) ∧ w' = w := by
  go_enter Try.func19, Try.ntmps19
  go_wp2_with (first
    | (go_at_call_of 24 (Value.int .i64 4); refine (zfd_any (y + 3) 4 (.inl rfl) (by omega) (by omega) _).mono ?_; rintro e w' ⟨rfl, rfl⟩)
    | (go_at_call_of 24 (Value.int .i64 100); refine (zfd_any (y + 99) 100 (.inr (.inl rfl)) (by omega) (by omega) _).mono ?_; rintro e w' ⟨rfl, rfl⟩)
    | (go_at_call_of 24 (Value.int .i64 400); refine (zfd_any (y + 399) 400 (.inr (.inr rfl)) (by omega) (by omega) _).mono ?_; rintro e w' ⟨rfl, rfl⟩))
  go_ret
  exact ⟨rfl, rfl⟩

theorem leaps_bd (y : Int) (h1 : -100000000000 ≤ y) (h2 : y ≤ 100000000000) : -50000000000 ≤ Cal.leaps y ∧ Cal.leaps y ≤ 50000000000 := by
  unfold Cal.leaps; omega
theorem dbm_bd (m : Int) (m1 : 1 ≤ m) (m2 : m ≤ 12) : 0 ≤ Cal.dbm m ∧ Cal.dbm m ≤ 334 := by
  rcases month_cases m m1 m2 with rfl | rfl | rfl | rfl | rfl | rfl | rfl | rfl | rfl | rfl | rfl | rfl <;> simp [Cal.dbm]

set_option maxHeartbeats 400000 in
theorem dayOf_any (y m d : Int) (h1 : -100000000000 ≤ y) (h2 : y ≤ 100000000000) (m1 : 1 ≤ m) (m2 : m ≤ 12) (d1 : -1000 ≤ d) (d2 : d ≤ 1000) (w : World) :
    Calls Try.prog 14 #[.int .i64 y, .int .i64 m, .int .i64 d] w fun e w' => e = .returned (.int .i64 (Cal.dayOf y m d)) ∧ w' = w := by
  obtain ⟨l1, l2⟩ := leaps_bd y h1 h2
  obtain ⟨b1, b2⟩ := dbm_bd m m1 m2
  have hr : Hid (Cal.dayOf y m d = 365 * y + Cal.leaps y + Cal.dbm m + d - 1 + (if 2 < m ∧ Cal.lpB y = true then 1 else 0) - 719528) := rfl
  by_cases hm : 2 < m
  · cases hl : Cal.lpB y
    · have hr2 : Hid (365 * y + Cal.leaps y + Cal.dbm m + d - 1 - 719528 = Cal.dayOf y m d) := by show _ = _; rw [hr.out, if_neg (by simp [hl])]; omega
      go_enter Try.func14, Try.ntmps14
      go_wp2_with (first | (go_at_call 19; refine (leaps_any y h1 h2 _).mono ?_; rintro e w' ⟨rfl, rfl⟩) | (go_at_call 20; refine (dbm_any m m1 m2 _).mono ?_; rintro e w' ⟨rfl, rfl⟩) | (go_at_call 21; refine (leap_any y (by omega) (by omega) _).mono ?_; rintro e w' ⟨rfl, rfl⟩))
      go_ret
      exact ⟨reti (by have := hr2.out; omega), rfl⟩
    · have hr2 : Hid (365 * y + Cal.leaps y + Cal.dbm m + d - 1 + 1 - 719528 = Cal.dayOf y m d) := by show _ = _; rw [hr.out, if_pos ⟨hm, hl⟩]
      go_enter Try.func14, Try.ntmps14
      go_wp2_with (first | (go_at_call 19; refine (leaps_any y h1 h2 _).mono ?_; rintro e w' ⟨rfl, rfl⟩) | (go_at_call 20; refine (dbm_any m m1 m2 _).mono ?_; rintro e w' ⟨rfl, rfl⟩) | (go_at_call 21; refine (leap_any y (by omega) (by omega) _).mono ?_; rintro e w' ⟨rfl, rfl⟩))
      go_ret
      exact ⟨reti (by have := hr2.out; omega), rfl⟩
  · have hr2 : Hid (365 * y + Cal.leaps y + Cal.dbm m + d - 1 - 719528 = Cal.dayOf y m d) := by show _ = _; rw [hr.out, if_neg (by omega)]; omega
    go_enter Try.func14, Try.ntmps14
    go_wp2_with (first | (go_at_call 19; refine (leaps_any y h1 h2 _).mono ?_; rintro e w' ⟨rfl, rfl⟩) | (go_at_call 20; refine (dbm_any m m1 m2 _).mono ?_; rintro e w' ⟨rfl, rfl⟩))
    go_ret
    exact ⟨reti (by have := hr2.out; omega), rfl⟩

set_option maxHeartbeats 400000 in
theorem valid_yes (y m d : Int) (h1 : -1000000000000 ≤ y) (h2 : y ≤ 1000000000000) (hv : Cal.valid y m d) (w : World) :
    Calls Try.prog 13 #[.int .i64 y, .int .i64 m, .int .i64 d] w fun e w' => e = .returned (.bool true) ∧ w' = w := by
  obtain ⟨m1, m2, d1, d2⟩ := hv
  go_enter Try.func13, Try.ntmps13
  go_wp2_with (go_at_call 18; refine (dim_any y m h1 h2 m1 m2 _).mono ?_; rintro e w' ⟨rfl, rfl⟩)
  go_ret
  exact ⟨rfl, rfl⟩
set_option maxHeartbeats 400000 in
theorem valid_no (y m d : Int) (h1 : -1000000000000 ≤ y) (h2 : y ≤ 1000000000000) (hv : ¬ Cal.valid y m d) (w : World) :
    Calls Try.prog 13 #[.int .i64 y, .int .i64 m, .int .i64 d] w fun e w' => e = .returned (.bool false) ∧ w' = w := by
  by_cases m1 : 1 ≤ m
  · by_cases m2 : m ≤ 12
    · by_cases d1 : 1 ≤ d
      · have d2 : ¬ d ≤ Cal.dim y m := fun d2 => hv ⟨m1, m2, d1, d2⟩
        clear hv
        go_enter Try.func13, Try.ntmps13
        go_wp2_with (go_at_call 18; refine (dim_any y m h1 h2 m1 m2 _).mono ?_; rintro e w' ⟨rfl, rfl⟩)
        go_ret
        exact ⟨retb (decide_eq_false (by omega)), rfl⟩
      · clear hv
        go_enter Try.func13, Try.ntmps13
        go_wp2
        go_ret
        exact ⟨rfl, rfl⟩
    · clear hv
      go_enter Try.func13, Try.ntmps13
      go_wp2
      go_ret
      exact ⟨rfl, rfl⟩
  · clear hv
    go_enter Try.func13, Try.ntmps13
    go_wp2
    go_ret
    exact ⟨rfl, rfl⟩
end Go.Proofs.Qxb6619407a
