/-
  THE CONTRACTS OF fromDate AND date.
-/
import Derived.Test.Qxb6619407aDayOf
namespace Go.Proofs.Qxb6619407a
open Go.RowKit
set_option linter.unusedVariables false

/-- floorDiv by 400, the quotient a letter. -/
theorem fd_400_at (a q : Int) (h1 : -1000000000000 ≤ a) (h2 : a ≤ 1000000000000) (hq1 : q * 400 ≤ a) (hq2 : a < q * 400 + 400) (w : World) :
    Calls Try.prog 25 #[.int .i64 a, .int .i64 400] w fun e w' => e = .returned (.int .i64 q) ∧ w' = w := by
  have : q = a / 400 := by omega
  rw [this]; exact fd_400 a h1 h2 w
theorem fd_146097_at (a q : Int) (h1 : -1000000000000 ≤ a) (h2 : a ≤ 1000000000000) (hq1 : q * 146097 ≤ a) (hq2 : a < q * 146097 + 146097) (w : World) :
    Calls Try.prog 25 #[.int .i64 a, .int .i64 146097] w fun e w' => e = .returned (.int .i64 q) ∧ w' = w := by
  have : q = a / 146097 := by omega
  rw [this]; exact fd_146097 a h1 h2 w

theorem fromD_q_hi (y m d q : Int) (m1 : 3 ≤ m) (hq1 : q * 400 ≤ y) (hq2 : y < q * 400 + 400) :
    q * 146097 + (365 * (y - q * 400) + (y - q * 400) / 4 - (y - q * 400) / 100 + ((153 * (m - 3) + 2) / 5 + d - 1)) - 719468 = Cal.fromD y m d := by
  have hm : ¬ m < 3 := by omega
  have e : y / 400 = q := by omega
  unfold Cal.fromD
  simp only [if_neg hm, e]
theorem fromD_q_lo (y m d q : Int) (m1 : m < 3) (hq1 : q * 400 ≤ y - 1) (hq2 : y - 1 < q * 400 + 400) :
    q * 146097 + (365 * (y - 1 - q * 400) + (y - 1 - q * 400) / 4 - (y - 1 - q * 400) / 100 + ((153 * (m + 12 - 3) + 2) / 5 + d - 1)) - 719468 = Cal.fromD y m d := by
  have e : (y - 1) / 400 = q := by omega
  unfold Cal.fromD
  simp only [if_pos m1, e]

set_option maxHeartbeats 400000 in
theorem from_hi (y m d q : Int) (h1 : -10000000000 ≤ y) (h2 : y ≤ 10000000000) (m1 : 3 ≤ m) (m2 : m ≤ 12) (d1 : 1 ≤ d) (d2 : d ≤ 31) (hq1 : q * 400 ≤ y) (hq2 : y < q * 400 + 400) (w : World) :
    Calls Try.prog 22 #[.int .i64 y, .int .i64 m, .int .i64 d] w fun e w' => e = .returned (.int .i32 (wrap32 (Cal.fromD y m d))) ∧ w' = w := by
  have hr : Hid _ := fromD_q_hi y m d q m1 hq1 hq2
  go_enter Try.func22, Try.ntmps22
  go_wp2_with (go_at_call 25; refine (fd_400_at y q (by omega) (by omega) hq1 hq2 _).mono ?_; rintro e w' ⟨rfl, rfl⟩)
  go_ret
  exact ⟨reti (congrArg wrap32 hr.out), rfl⟩
set_option maxHeartbeats 400000 in
theorem from_lo (y m d q : Int) (h1 : -10000000000 ≤ y) (h2 : y ≤ 10000000000) (m1 : 1 ≤ m) (m2 : m < 3) (d1 : 1 ≤ d) (d2 : d ≤ 31) (hq1 : q * 400 ≤ y - 1) (hq2 : y - 1 < q * 400 + 400) (w : World) :
    Calls Try.prog 22 #[.int .i64 y, .int .i64 m, .int .i64 d] w fun e w' => e = .returned (.int .i32 (wrap32 (Cal.fromD y m d))) ∧ w' = w := by
  have hr : Hid _ := fromD_q_lo y m d q m2 hq1 hq2
  go_enter Try.func22, Try.ntmps22
  go_wp2_with (go_at_call 25; refine (fd_400_at (y - 1) q (by omega) (by omega) hq1 hq2 _).mono ?_; rintro e w' ⟨rfl, rfl⟩)
  go_ret
  exact ⟨reti (congrArg wrap32 hr.out), rfl⟩
theorem from_any (y m d : Int) (h1 : -10000000000 ≤ y) (h2 : y ≤ 10000000000) (m1 : 1 ≤ m) (m2 : m ≤ 12) (d1 : 1 ≤ d) (d2 : d ≤ 31) (w : World) :
    Calls Try.prog 22 #[.int .i64 y, .int .i64 m, .int .i64 d] w fun e w' => e = .returned (.int .i32 (wrap32 (Cal.fromD y m d))) ∧ w' = w := by
  by_cases h : m < 3
  · exact from_lo y m d ((y - 1) / 400) h1 h2 m1 h d1 d2 (by omega) (by omega) w
  · exact from_hi y m d (y / 400) h1 h2 (by omega) m2 d1 d2 (by omega) (by omega) w
theorem wrap32_in (n : Int) (h : -2147483648 ≤ n ∧ n ≤ 2147483647) : wrap32 n = n := by unfold wrap32; omega
set_option maxHeartbeats 400000 in
/-- ZZFromDate where the day's number fits a Day. -/
theorem zfrom_any (y m d : Int) (h1 : -10000000000 ≤ y) (h2 : y ≤ 10000000000) (hv : Cal.valid y m d) (n : Int) (hn : Cal.dayOf y m d = n) (n1 : -2147483648 ≤ n) (n2 : n ≤ 2147483647) (w : World) :
    Calls Try.prog 15 #[.int .i64 y, .int .i64 m, .int .i64 d] w fun e w' => e = .returned (.int .i32 n) ∧ w' = w := by
  obtain ⟨m1, m2, d1, d2⟩ := hv
  have hd := Cal.dim_pos y m m1 m2
  have hr : Hid (wrap32 (Cal.fromD y m d) = n) := by show _ = _; rw [Cal.fromD_eq y m d m1 m2, hn]; exact wrap32_in n ⟨n1, n2⟩
  have d3 : d ≤ 31 := by omega
  clear hn hd d2
  go_enter Try.func15, Try.ntmps15
  go_wp2_with (go_at_call 22; refine (from_any y m d h1 h2 m1 m2 d1 d3 _).mono ?_; rintro e w' ⟨rfl, rfl⟩)
  go_ret
  exact ⟨reti hr.out, rfl⟩

/-! ### date -/
theorem era_q (n q : Int) (hq1 : q * 146097 ≤ n + 719468) (hq2 : n + 719468 < q * 146097 + 146097) : Cal.era n = q := by unfold Cal.era; omega
theorem date_hi (n q : Int) (hq1 : q * 146097 ≤ n + 719468) (hq2 : n + 719468 < q * 146097 + 146097) (h : 12 < Cal.dateM0 (Cal.doy (n + 719468 - q * 146097)) + 3) :
    Cal.yoe (n + 719468 - q * 146097) + q * 400 + 1 = Cal.dateY n ∧ Cal.dateM0 (Cal.doy (n + 719468 - q * 146097)) + 3 - 12 = Cal.dateM n ∧
      Cal.doy (n + 719468 - q * 146097) - (153 * Cal.dateM0 (Cal.doy (n + 719468 - q * 146097)) + 2) / 5 + 1 = Cal.dateD n := by
  unfold Cal.dateY Cal.dateM Cal.dateD Cal.mp Cal.doe
  rw [era_q n q hq1 hq2]
  exact ⟨(if_pos h).symm, (if_pos h).symm, rfl⟩
theorem date_lo (n q : Int) (hq1 : q * 146097 ≤ n + 719468) (hq2 : n + 719468 < q * 146097 + 146097) (h : ¬ 12 < Cal.dateM0 (Cal.doy (n + 719468 - q * 146097)) + 3) :
    Cal.yoe (n + 719468 - q * 146097) + q * 400 = Cal.dateY n ∧ Cal.dateM0 (Cal.doy (n + 719468 - q * 146097)) + 3 = Cal.dateM n ∧
      Cal.doy (n + 719468 - q * 146097) - (153 * Cal.dateM0 (Cal.doy (n + 719468 - q * 146097)) + 2) / 5 + 1 = Cal.dateD n := by
  unfold Cal.dateY Cal.dateM Cal.dateD Cal.mp Cal.doe
  rw [era_q n q hq1 hq2]
  exact ⟨(if_neg h).symm, (if_neg h).symm, rfl⟩
theorem ret3 {a b c a' b' c' : Int} (h1 : a = a') (h2 : b = b') (h3 : c = c') : Ending.returned (.tuple #[.int .i64 a, .int .i64 b, .int .i64 c]) = .returned (.tuple #[.int .i64 a', .int .i64 b', .int .i64 c']) := by rw [h1, h2, h3]
set_option maxHeartbeats 800000 in
theorem date_q (n q : Int) (n1 : -2147483648 ≤ n) (n2 : n ≤ 2147483647) (hq1 : q * 146097 ≤ n + 719468) (hq2 : n + 719468 < q * 146097 + 146097) (w : World) :
    Calls Try.prog 23 #[.int .i32 n] w fun e w' => e = .returned (.tuple #[.int .i64 (Cal.dateY n), .int .i64 (Cal.dateM n), .int .i64 (Cal.dateD n)]) ∧ w' = w := by
  have hE := Cal.doy_bd (n + 719468 - q * 146097) (by omega) (by omega)
  have hY := Cal.yoe_lo (n + 719468 - q * 146097) (by omega) (by omega)
  obtain ⟨hE1, hE2, _⟩ := hE
  obtain ⟨hY1, hY2⟩ := hY
  by_cases hm : 12 < Cal.dateM0 (Cal.doy (n + 719468 - q * 146097)) + 3
  · have hr : Hid _ := date_hi n q hq1 hq2 hm
    unfold Cal.doy Cal.yoe at hE1 hE2
    unfold Cal.yoe at hY1 hY2
    unfold Cal.dateM0 Cal.doy Cal.yoe at hm
    go_enter Try.func23, Try.ntmps23
    go_wp2_with (go_at_call 25; refine (fd_146097_at (n + 719468) q (by omega) (by omega) hq1 hq2 _).mono ?_; rintro e w' ⟨rfl, rfl⟩)
    go_ret3
    exact ⟨ret3 hr.out.1 hr.out.2.1 hr.out.2.2, rfl⟩
  · have hr : Hid _ := date_lo n q hq1 hq2 hm
    unfold Cal.doy Cal.yoe at hE1 hE2
    unfold Cal.yoe at hY1 hY2
    unfold Cal.dateM0 Cal.doy Cal.yoe at hm
    go_enter Try.func23, Try.ntmps23
    go_wp2_with (go_at_call 25; refine (fd_146097_at (n + 719468) q (by omega) (by omega) hq1 hq2 _).mono ?_; rintro e w' ⟨rfl, rfl⟩)
    go_ret3
    exact ⟨ret3 hr.out.1 hr.out.2.1 hr.out.2.2, rfl⟩
set_option maxHeartbeats 400000 in
theorem zdate_any (n : Int) (n1 : -2147483648 ≤ n) (n2 : n ≤ 2147483647) (w : World) :
    Calls Try.prog 16 #[.int .i32 n] w fun e w' => e = .returned (.tuple #[.int .i64 (Cal.dateY n), .int .i64 (Cal.dateM n), .int .i64 (Cal.dateD n)]) ∧ w' = w := by
  go_enter Try.func16, Try.ntmps16
  go_wp2_with (go_at_call 23; refine (date_q n ((n + 719468) / 146097) n1 n2 (by omega) (by omega) _).mono ?_; rintro e w' ⟨rfl, rfl⟩)
  go_ret3
  exact ⟨rfl, rfl⟩
end Go.Proofs.Qxb6619407a
