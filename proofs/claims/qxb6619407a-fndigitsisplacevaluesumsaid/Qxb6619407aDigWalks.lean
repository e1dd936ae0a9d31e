/-
  THE CONTRACTS OF digits, ZZDigits AND zzDigitsModel.
-/
import Derived.Test.Qxb6619407aRows
import Derived.Test.Qxb6619407aDig
import Derived.WalkKit
import Derived.WalkSpells
import Derived.WalkLawsBesides
namespace Go.Proofs.Qxb6619407a
open Go.RowKit
set_option linter.unusedVariables false

theorem hv_zero (s : ByteArray) (f : Nat) : wrap64 (hv s f 0) = 0 := by show wrap64 0 = 0; unfold wrap64; omega
theorem one_wrap : (1 : Int) = wrap64 (10 ^ 0) := by show 1 = wrap64 1; unfold wrap64; omega
theorem ret_pair {a b : Int} {c d : Bool} (h : a = b) (h' : c = d) : Ending.returned (.tuple #[.int .i64 a, .bool c]) = .returned (.tuple #[.int .i64 b, .bool d]) := by rw [h, h']

set_option maxHeartbeats 400000 in
theorem dg_long (s : ByteArray) (f t : Int) (hs : s.size ≤ 1048576) (h : (s.size : Int) < t) (w : World) :
    Calls Try.prog 17 #[.string s, .int .i64 f, .int .i64 t] w fun e w' => e = .returned (.tuple #[.int .i64 0, .bool false]) ∧ w' = w := by
  go_enter Try.func17, Try.ntmps17
  go_wp2
  go_ret2
  exact ⟨rfl, rfl⟩

set_option maxHeartbeats 400000 in
theorem dg_none (s : ByteArray) (f t : Int) (hs : s.size ≤ 1048576) (h : t ≤ (s.size : Int)) (h' : t ≤ f) (w : World) :
    Calls Try.prog 17 #[.string s, .int .i64 f, .int .i64 t] w fun e w' => e = .returned (.tuple #[.int .i64 0, .bool true]) ∧ w' = w := by
  have h1 : ¬ (s.size : Int) < t := by omega
  have h2 : ¬ f < t := by omega
  go_enter Try.func17, Try.ntmps17
  go_wp2
  refine wp_loop_rounds 1 ?_
  rw [rounds_succ]
  go_wp2
  go_ret2
  exact ⟨rfl, rfl⟩

set_option maxHeartbeats 400000 in
theorem dg_some (s : ByteArray) (f n : Nat) (hs : s.size ≤ 1048576) (h : f + n ≤ s.size) (w : World) :
    Calls Try.prog 17 #[.string s, .int .i64 f, .int .i64 ((f : Int) + n)] w fun e w' => e = .returned (.tuple #[.int .i64 (dN s f n), .bool (allB s f n)]) ∧ w' = w := by
  have h1 : ¬ (s.size : Int) < (f : Int) + n := by omega
  go_enter Try.func17, Try.ntmps17
  go_wp2
  go_loop [8, 9] (fun v i => ∃ k : Nat, k ≤ n ∧ i = .int .i64 ((f : Int) + k) ∧ v = .int .i64 (wrap64 (hv s f k)) ∧ Hid (allB s f k = true)) (fun _ i => n + f - (intOf i).toNat)
  case atStart => exact ⟨0, Nat.zero_le _, by simp, congrArg (Value.int .i64) (hv_zero s f).symm, rfl⟩
  case round =>
    obtain ⟨k, hk, rfl, rfl, ha⟩ := hrel
    by_cases hlt : k < n
    · have hks : f + k < s.size := by omega
      have hb := bt_bd s (f + k)
      have he := bt_eq s (f + k) hks
      by_cases h2 : 48 ≤ bt s (f + k)
      · by_cases h3 : bt s (f + k) ≤ 57
        · have hst : Hid _ := hv_step s f k
          have ha' : Hid (allB s f (k + 1) = true) := by show _ = _; simp only [allB, isD]; rw [ha.out, decide_eq_true ⟨h2, h3⟩]; rfl
          go_wp2
          go_round
          case rel => exact ⟨k + 1, by omega, by go_num, congrArg (Value.int .i64) hst.out, ha'⟩
          case measure => simp [intOf]; omega
        · have hn : Hid (allB s f n = false) := allB_stop s f k n hlt (decide_eq_false (by omega))
          go_wp2
          go_ret2
          exact ⟨ret_pair (dN_no _ _ _ hn.out).symm hn.out.symm, rfl⟩
      · have hn : Hid (allB s f n = false) := allB_stop s f k n hlt (decide_eq_false (by omega))
        go_wp2
        go_ret2
        exact ⟨ret_pair (dN_no _ _ _ hn.out).symm hn.out.symm, rfl⟩
    · have hkk : k = n := by omega
      subst hkk
      go_wp2
      go_ret2
      exact ⟨ret_pair (dN_yes _ _ _ ha.out).symm ha.out.symm, rfl⟩

/-! ### ZZDigits -/
set_option maxHeartbeats 400000 in
theorem zd_long (s : ByteArray) (f t : Int) (hs : s.size ≤ 1048576) (h : (s.size : Int) < t) (w : World) :
    Calls Try.prog 10 #[.string s, .int .i64 f, .int .i64 t] w fun e w' => e = .returned (.tuple #[.int .i64 0, .bool false]) ∧ w' = w := by
  go_enter Try.func10, Try.ntmps10
  go_wp2_with (go_at_call 17; refine (dg_long s f t hs h _).mono ?_; rintro e w' ⟨rfl, rfl⟩)
  go_ret2
  exact ⟨rfl, rfl⟩
set_option maxHeartbeats 400000 in
theorem zd_none (s : ByteArray) (f t : Int) (hs : s.size ≤ 1048576) (h : t ≤ (s.size : Int)) (h' : t ≤ f) (w : World) :
    Calls Try.prog 10 #[.string s, .int .i64 f, .int .i64 t] w fun e w' => e = .returned (.tuple #[.int .i64 0, .bool true]) ∧ w' = w := by
  go_enter Try.func10, Try.ntmps10
  go_wp2_with (go_at_call 17; refine (dg_none s f t hs h h' _).mono ?_; rintro e w' ⟨rfl, rfl⟩)
  go_ret2
  exact ⟨rfl, rfl⟩
set_option maxHeartbeats 400000 in
theorem zd_some (s : ByteArray) (f n : Nat) (hs : s.size ≤ 1048576) (h : f + n ≤ s.size) (w : World) :
    Calls Try.prog 10 #[.string s, .int .i64 f, .int .i64 ((f : Int) + n)] w fun e w' => e = .returned (.tuple #[.int .i64 (dN s f n), .bool (allB s f n)]) ∧ w' = w := by
  go_enter Try.func10, Try.ntmps10
  go_wp2_with (go_at_call 17; refine (dg_some s f n hs h _).mono ?_; rintro e w' ⟨rfl, rfl⟩)
  go_ret2
  exact ⟨rfl, rfl⟩

/-! ### zzDigitsModel -/
set_option maxHeartbeats 400000 in
theorem dm_long (s : ByteArray) (f t : Int) (hs : s.size ≤ 1048576) (h : (s.size : Int) < t) (w : World) :
    Calls Try.prog 11 #[.string s, .int .i64 f, .int .i64 t] w fun e w' => e = .returned (.tuple #[.int .i64 0, .bool false]) ∧ w' = w := by
  go_enter Try.func11, Try.ntmps11
  go_wp2
  go_ret2
  exact ⟨rfl, rfl⟩
set_option maxHeartbeats 400000 in
theorem dm_none (s : ByteArray) (f t : Int) (hs : s.size ≤ 1048576) (h : t ≤ (s.size : Int)) (h' : t ≤ f) (w : World) :
    Calls Try.prog 11 #[.string s, .int .i64 f, .int .i64 t] w fun e w' => e = .returned (.tuple #[.int .i64 0, .bool true]) ∧ w' = w := by
  have h1 : ¬ (s.size : Int) < t := by omega
  have h2 : ¬ f < t := by omega
  go_enter Try.func11, Try.ntmps11
  go_wp2
  refine wp_loop_rounds 1 ?_
  rw [rounds_succ]
  go_wp2
  go_ret2
  exact ⟨rfl, rfl⟩
set_option maxHeartbeats 400000 in
theorem dm_some (s : ByteArray) (f n : Nat) (hs : s.size ≤ 1048576) (h : f + n ≤ s.size) (w : World) :
    Calls Try.prog 11 #[.string s, .int .i64 f, .int .i64 ((f : Int) + n)] w fun e w' => e = .returned (.tuple #[.int .i64 (dN s f n), .bool (allB s f n)]) ∧ w' = w := by
  have h1 : ¬ (s.size : Int) < (f : Int) + n := by omega
  go_enter Try.func11, Try.ntmps11
  go_wp2
  go_loop [8, 9, 10] (fun v p i => ∃ k : Nat, k ≤ n ∧ i = .int .i64 ((f : Int) + k) ∧ v = .int .i64 (wrap64 (hv s (f + k) (n - k))) ∧ p = .int .i64 (wrap64 (10 ^ (n - k))) ∧ Hid (allB s (f + k) (n - k) = true)) (fun _ _ i => (intOf i - f).toNat)
  case atStart => exact ⟨n, Nat.le_refl _, rfl, by rw [Nat.sub_self, hv_zero], by rw [Nat.sub_self]; exact congrArg (Value.int .i64) one_wrap, by rw [Nat.sub_self]; rfl⟩
  case round =>
    obtain ⟨k, hk, rfl, rfl, rfl, ha⟩ := hrel
    by_cases hlt : 0 < k
    · obtain ⟨j, rfl⟩ : ∃ j, k = j + 1 := ⟨k - 1, by omega⟩
      obtain ⟨m, hm⟩ : ∃ m, m = n - (j + 1) := ⟨_, rfl⟩
      have hm1 : n - j = m + 1 := by omega
      rw [← hm] at ha ⊢
      have hks : f + j < s.size := by omega
      have hb := bt_bd s (f + j)
      have he := bt_eq s (f + j) hks
      have HM : Hid (n - j = m + 1) := hm1
      clear hm1
      have HM2 : Hid (m = n - (j + 1)) := hm
      clear hm
      by_cases h2 : 48 ≤ bt s (f + j)
      · by_cases h3 : bt s (f + j) ≤ 57
        · have hst : Hid _ := rv_step s (f + j) m
          have hpw : Hid _ := pow_step m
          have ha' : Hid (allB s (f + j) (m + 1) = true) := by show _ = _; rw [allB_cons, Nat.add_assoc, ha.out]; simp [isD, h2, h3]
          go_wp2
          go_round
          case rel => exact ⟨j, by omega, by go_num, by rw [HM.out]; exact congrArg (Value.int .i64) hst.out, by rw [HM.out]; exact congrArg (Value.int .i64) hpw.out, by rw [HM.out]; exact ha'⟩
          case measure => simp [intOf]; omega
        · have hn : Hid (allB s f n = false) := allB_stop s f j n (by omega) (decide_eq_false (by omega))
          go_wp2
          go_ret2
          exact ⟨ret_pair (dN_no _ _ _ hn.out).symm hn.out.symm, rfl⟩
      · have hn : Hid (allB s f n = false) := allB_stop s f j n (by omega) (decide_eq_false (by omega))
        go_wp2
        go_ret2
        exact ⟨ret_pair (dN_no _ _ _ hn.out).symm hn.out.symm, rfl⟩
    · have hkk : k = 0 := by omega
      subst hkk
      go_wp2
      go_ret2
      exact ⟨ret_pair (dN_yes _ _ _ ha.out).symm ha.out.symm, rfl⟩
end Go.Proofs.Qxb6619407a
