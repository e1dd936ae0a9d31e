/-
  THE CONTRACTS OF THE CALENDAR's FUNCTIONS.
-/
import Derived.Test.Qxb6619407aRows
import Derived.Test.Qxb6619407aCal
import Derived.WalkKit
import Derived.WalkSpells
import Derived.WalkLawsBesides
namespace Go.Proofs.Qxb6619407a
open Go.RowKit
set_option linter.unusedVariables false

theorem reti {k : IntKind} {a b : Int} (h : a = b) : Ending.returned (.int k a) = .returned (.int k b) := by rw [h]
theorem retb {a b : Bool} (h : a = b) : Ending.returned (.bool a) = .returned (.bool b) := by rw [h]
theorem tdiv_neg (a b : Int) (h : a < 0) (hb : 0 < b) : a.tdiv b = -((-a) / b) := by
  have := Int.neg_tdiv (-a) b
  rw [Int.neg_neg] at this
  rw [this, Int.tdiv_eq_ediv_of_nonneg (by omega)]
theorem tmod_neg (a b : Int) (h : a < 0) (hb : 0 < b) : a.tmod b = -((-a) % b) := by
  have := Int.neg_tmod (-a) b
  rw [Int.neg_neg] at this
  rw [this, Int.tmod_eq_emod_of_nonneg (by omega)]
theorem tmod_pos (a b : Int) (h : 0 ≤ a) : a.tmod b = a % b := Int.tmod_eq_emod_of_nonneg h

set_option maxHeartbeats 400000 in
theorem zfd_any (a b : Int) (hb : b = 4 ∨ b = 100 ∨ b = 400) (h1 : -1000000000000 ≤ a) (h2 : a ≤ 1000000000000) (w : World) :
    Calls Try.prog 24 #[.int .i64 a, .int .i64 b] w fun e w' => e = .returned (.int .i64 (a / b)) ∧ w' = w := by
  rcases hb with rfl | rfl | rfl
  all_goals
    by_cases h : 0 ≤ a
    · go_enter Try.func24, Try.ntmps24
      go_wp2
      go_ret
      exact ⟨rfl, rfl⟩
    · go_enter Try.func24, Try.ntmps24
      go_wp2
      go_ret
      exact ⟨reti (by omega), rfl⟩
set_option maxHeartbeats 400000 in
theorem fd_400 (a : Int) (h1 : -1000000000000 ≤ a) (h2 : a ≤ 1000000000000) (w : World) :
    Calls Try.prog 25 #[.int .i64 a, .int .i64 400] w fun e w' => e = .returned (.int .i64 (a / 400)) ∧ w' = w := by
  by_cases h : 0 ≤ a
  · go_enter Try.func25, Try.ntmps25
    go_wp2
    go_ret
    exact ⟨rfl, rfl⟩
  · have t1 := tdiv_neg a 400 (by omega) (by omega)
    have t2 := tmod_neg a 400 (by omega) (by omega)
    by_cases h0 : (-a) % 400 = 0
    · go_enter Try.func25, Try.ntmps25
      go_wp2
      go_ret
      exact ⟨reti (by omega), rfl⟩
    · go_enter Try.func25, Try.ntmps25
      go_wp2
      go_ret
      exact ⟨reti (by omega), rfl⟩
set_option maxHeartbeats 400000 in
theorem fd_146097 (a : Int) (h1 : -1000000000000 ≤ a) (h2 : a ≤ 1000000000000) (w : World) :
    Calls Try.prog 25 #[.int .i64 a, .int .i64 146097] w fun e w' => e = .returned (.int .i64 (a / 146097)) ∧ w' = w := by
  by_cases h : 0 ≤ a
  · go_enter Try.func25, Try.ntmps25
    go_wp2
    go_ret
    exact ⟨rfl, rfl⟩
  · have t1 := tdiv_neg a 146097 (by omega) (by omega)
    have t2 := tmod_neg a 146097 (by omega) (by omega)
    by_cases h0 : (-a) % 146097 = 0
    · go_enter Try.func25, Try.ntmps25
      go_wp2
      go_ret
      exact ⟨reti (by omega), rfl⟩
    · go_enter Try.func25, Try.ntmps25
      go_wp2
      go_ret
      exact ⟨reti (by omega), rfl⟩

theorem tmod_eq0 (y b : Int) (hb : 0 < b) : y.tmod b = 0 ↔ y % b = 0 := by
  rw [← Int.dvd_iff_tmod_eq_zero, Int.dvd_iff_emod_eq_zero]
set_option maxHeartbeats 400000 in
theorem leap_any (y : Int) (h1 : -1000000000000 ≤ y) (h2 : y ≤ 1000000000000) (w : World) :
    Calls Try.prog 21 #[.int .i64 y] w fun e w' => e = .returned (.bool (Cal.lpB y)) ∧ w' = w := by
  have e1 := tmod_eq0 y 400 (by omega)
  have e2 := tmod_eq0 y 100 (by omega)
  have e3 := tmod_eq0 y 4 (by omega)
  by_cases c1 : y % 400 = 0
  · have t1 : y.tmod 400 = 0 := e1.2 c1
    have hr : Hid (true = Cal.lpB y) := by show _ = _; simp [Cal.lpB, c1]
    clear e1 e2 e3 c1
    go_enter Try.func21, Try.ntmps21
    go_wp2
    go_ret
    exact ⟨retb hr.out, rfl⟩
  · have t1 : (y.tmod 400 == 0) = false := by simp; omega
    by_cases c2 : y % 100 = 0
    · have t2 : y.tmod 100 = 0 := e2.2 c2
      have hr : Hid (false = Cal.lpB y) := by show _ = _; simp [Cal.lpB, c1, c2]
      clear e1 e2 e3 c1 c2
      go_enter Try.func21, Try.ntmps21
      go_wp2
      go_ret
      exact ⟨retb hr.out, rfl⟩
    · have t2 : (y.tmod 100 == 0) = false := by simp; omega
      by_cases c3 : y % 4 = 0
      · have t3 : y.tmod 4 = 0 := e3.2 c3
        have hr : Hid (true = Cal.lpB y) := by show _ = _; simp [Cal.lpB, c2, c3]
        clear e1 e2 e3 c1 c2 c3
        go_enter Try.func21, Try.ntmps21
        go_wp2
        go_ret
        exact ⟨retb hr.out, rfl⟩
      · have t3 : (y.tmod 4 == 0) = false := by simp; omega
        have hr : Hid (false = Cal.lpB y) := by show _ = _; simp [Cal.lpB, c1, c3]
        clear e1 e2 e3 c1 c2 c3
        go_enter Try.func21, Try.ntmps21
        go_wp2
        go_ret
        exact ⟨retb hr.out, rfl⟩
end Go.Proofs.Qxb6619407a
