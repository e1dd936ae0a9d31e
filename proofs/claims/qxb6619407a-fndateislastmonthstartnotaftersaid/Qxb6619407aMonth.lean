/-
  THE WALK OF FnDateIsLastMonthStartNotAfter: a search for the year, then a search for the month.
-/
import Derived.Test.Qxb6619407aDateLaws
namespace Go.Proofs.Qxb6619407a
open Go.RowKit
set_option linter.unusedVariables false

theorem start_lo : Cal.dayOf (-6000000) 1 1 ≤ -2147483648 := by decide
theorem start_hi : 2147483647 < Cal.dayOf 6000000 1 1 := by decide
/-- what the two searches have found is the date -/
theorem found (n lo m : Int) (m1 : 1 ≤ m) (m2 : m ≤ 12) (a : Cal.dayOf lo m 1 ≤ n) (b : n < Cal.dayOf lo m 1 + Cal.dim lo m) :
    Cal.dateY n = lo ∧ Cal.dateM n = m ∧ Cal.dateD n = n - Cal.dayOf lo m 1 + 1 := by
  refine Cal.uniq _ _ _ _ _ _ (Cal.date_valid n) ⟨m1, m2, by omega, by omega⟩ ?_
  rw [Cal.date_day, Cal.day_add lo m]; omega

set_option maxHeartbeats 1000000 in
theorem month_walk (n : Int) (n1 : -2147483648 ≤ n) (n2 : n ≤ 2147483647) (w : World) :
    Calls Try.prog 7 #[.int .i32 n] w fun e w' => e = .returned (.bool true) ∧ w' = w := by
  have s1 := start_lo
  have s2 := start_hi
  go_enter Try.func7, Try.ntmps7
  go_wp2
  go_loop [4, 5] (fun a b => ∃ lo hi : Int, -6000000 ≤ lo ∧ lo < hi ∧ hi ≤ 6000000 ∧ Cal.dayOf lo 1 1 ≤ n ∧ n < Cal.dayOf hi 1 1 ∧ a = .int .i64 lo ∧ b = .int .i64 hi) (fun a b => (intOf b - intOf a).toNat)
  case atStart => exact ⟨-6000000, 6000000, by omega, by omega, by omega, by omega, by omega, rfl, rfl⟩
  case round =>
    obtain ⟨lo, hi, b1, b2, b3, c1, c2, rfl, rfl⟩ := hrel
    clear s1 s2
    by_cases hlt : 1 < hi - lo
    · by_cases hc : Cal.dayOf (lo + (hi - lo) / 2) 1 1 ≤ n
      · go_wp2_with (go_at_call 14; refine (dayOf_any _ 1 1 (by omega) (by omega) (by omega) (by omega) (by omega) (by omega) _).mono ?_; rintro e w' ⟨rfl, rfl⟩)
        go_round
        case rel => exact ⟨_, _, by omega, by omega, by omega, hc, c2, rfl, rfl⟩
        case measure => simp [intOf]; omega
      · go_wp2_with (go_at_call 14; refine (dayOf_any _ 1 1 (by omega) (by omega) (by omega) (by omega) (by omega) (by omega) _).mono ?_; rintro e w' ⟨rfl, rfl⟩)
        go_round
        case rel => exact ⟨_, _, by omega, by omega, by omega, c1, by omega, rfl, rfl⟩
        case measure => simp [intOf]; omega
    · have hh : hi = lo + 1 := by omega
      subst hh
      have hlast := Cal.cum_last lo
      have e12 : n < Cal.dayOf lo 12 1 + Cal.dim lo 12 := by omega
      clear hlast c2
      go_wp2
      go_loop [7] (fun a => ∃ m : Int, 1 ≤ m ∧ m ≤ 12 ∧ n < Cal.dayOf lo m 1 + Cal.dim lo m ∧ a = .int .i64 m) (fun a => (intOf a).toNat)
      case atStart => exact ⟨12, by omega, by omega, e12, rfl⟩
      case round =>
        obtain ⟨m, m1, m2, hm, rfl⟩ := hrel
        clear e12
        obtain ⟨x1, x2⟩ := dayOf_bd lo m 1 (by omega) (by omega) m1 m2 (by omega) (by omega)
        by_cases hc : 1 < m ∧ n < Cal.dayOf lo m 1
        · obtain ⟨hm1, hgt⟩ := hc
          have hs := Cal.cum_succ lo (m - 1) (by omega) (by omega)
          rw [Int.sub_add_cancel] at hs
          have hn : n < Cal.dayOf lo (m - 1) 1 + Cal.dim lo (m - 1) := by omega
          have HN : Hid _ := hn
          clear hs hn
          go_wp2_with (go_at_call 14; refine (dayOf_any lo m 1 (by omega) (by omega) m1 m2 (by omega) (by omega) _).mono ?_; rintro e w' ⟨rfl, rfl⟩)
          go_round
          case rel => exact ⟨m - 1, by omega, by omega, HN.out, rfl⟩
          case measure => simp [intOf]; omega
        · have hle : Cal.dayOf lo m 1 ≤ n := by
            by_cases e : m = 1
            · subst e; exact c1
            · omega
          obtain ⟨u1, u2, u3⟩ := found n lo m m1 m2 hle hm
          clear hc
          by_cases hm1 : 1 < m
          all_goals
            go_wp2_with (first
              | (go_at_call 14; refine (dayOf_any lo m 1 (by omega) (by omega) m1 m2 (by omega) (by omega) _).mono ?_; rintro e w' ⟨rfl, rfl⟩)
              | (go_at_call 16; refine (zdate_any n n1 n2 _).mono ?_; rintro e w' ⟨rfl, rfl⟩))
            go_ret
            exact ⟨rfl, rfl⟩
end Go.Proofs.Qxb6619407a
