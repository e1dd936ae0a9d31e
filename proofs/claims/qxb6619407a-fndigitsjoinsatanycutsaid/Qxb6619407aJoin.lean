/-
  THE WALK OF FnDigitsJoinsAtAnyCut.
-/
import Derived.Test.Qxb6619407aDigLaws
namespace Go.Proofs.Qxb6619407a
open Go.RowKit
set_option linter.unusedVariables false

set_option maxHeartbeats 400000 in
theorem join_early (s : ByteArray) (f k t : Int) (hs : s.size ≤ 9223372036854775807) (h : 1048576 < s.size ∨ f < 0 ∨ k < f ∨ t < k) (w : World) :
    Calls Try.prog 4 #[.string s, .int .i64 f, .int .i64 k, .int .i64 t] w fun e w' => e = .returned (.bool true) ∧ w' = w := by
  by_cases hl : s.size ≤ 1048576
  · have hdec : decide (s.size ≤ 1048576) = true := decide_eq_true hl
    by_cases h0 : f < 0
    · go_enter Try.func4, Try.ntmps4
      go_wp2_with (go_at_call 12; refine (zb4 s f k t hs _).mono ?_; rintro e w' ⟨rfl, rfl⟩)
      go_ret
      exact ⟨rfl, rfl⟩
    · by_cases h1 : k < f
      · go_enter Try.func4, Try.ntmps4
        go_wp2_with (go_at_call 12; refine (zb4 s f k t hs _).mono ?_; rintro e w' ⟨rfl, rfl⟩)
        go_ret
        exact ⟨rfl, rfl⟩
      · have h2 : t < k := by omega
        clear h
        go_enter Try.func4, Try.ntmps4
        go_wp2_with (go_at_call 12; refine (zb4 s f k t hs _).mono ?_; rintro e w' ⟨rfl, rfl⟩)
        go_ret
        exact ⟨rfl, rfl⟩
  · have hdec : decide (s.size ≤ 1048576) = false := decide_eq_false hl
    go_enter Try.func4, Try.ntmps4
    go_wp2_with (go_at_call 12; refine (zb4 s f k t hs _).mono ?_; rintro e w' ⟨rfl, rfl⟩)
    go_ret
    exact ⟨rfl, rfl⟩

/-- What a call of ZZDigits comes to. -/
def Says (s : ByteArray) (F T : Int) (n : Int) (b : Bool) : Prop :=
  ∀ w : World, Calls Try.prog 10 #[.string s, .int .i64 F, .int .i64 T] w fun e w' => e = .returned (.tuple #[.int .i64 n, .bool b]) ∧ w' = w

set_option maxHeartbeats 400000 in
/-- the range does not lie in s -/
theorem join_long (s : ByteArray) (f k t : Int) (hl : s.size ≤ 1048576) (h0 : 0 ≤ f) (h1 : f ≤ k) (h2 : k ≤ t) (h3 : (s.size : Int) < t) (n1 : Int) (b1 : Bool) (hz : Says s f k n1 b1) (w : World) :
    Calls Try.prog 4 #[.string s, .int .i64 f, .int .i64 k, .int .i64 t] w fun e w' => e = .returned (.bool true) ∧ w' = w := by
  have hdec : decide (s.size ≤ 1048576) = true := decide_eq_true hl
  have Z : Hid _ := hz
  clear hz
  go_enter Try.func4, Try.ntmps4
  go_wp2_with (go_at_call 12; refine (zb4 s f k t (by omega) _).mono ?_; rintro e w' ⟨rfl, rfl⟩)
  refine (zd_long s f t hl h3 _).mono ?_
  rintro e w' ⟨rfl, rfl⟩
  go_wp2_with fail
  refine (Z.out _).mono ?_
  rintro e w' ⟨rfl, rfl⟩
  go_wp2_with fail
  refine (zd_long s k t hl h3 _).mono ?_
  rintro e w' ⟨rfl, rfl⟩
  cases b1
  all_goals
    go_wp2_with fail
    refine wp_loop_rounds 1 ?_
    rw [rounds_succ]
    go_wp2
    go_ret
    exact ⟨rfl, rfl⟩

theorem allB_at (s : ByteArray) (f n j : Nat) (h : allB s f n = true) (hj : j < n) : 48 ≤ bt s (f + j) ∧ bt s (f + j) ≤ 57 := by
  have := allB_mono s f (j + 1) n (by omega) h
  simp [allB, isD] at this
  exact this.2

set_option maxHeartbeats 800000 in
theorem join_yes (s : ByteArray) (f a b : Nat) (hl : s.size ≤ 1048576) (hin : f + a + b ≤ s.size) (hT : allB s f (a + b) = true) (w : World) :
    Calls Try.prog 4 #[.string s, .int .i64 f, .int .i64 ((f : Int) + a), .int .i64 ((f : Int) + a + b)] w fun e w' => e = .returned (.bool true) ∧ w' = w := by
  have hdec : decide (s.size ≤ 1048576) = true := decide_eq_true hl
  have hA : allB s f a = true := by rw [allB_app] at hT; simp at hT; exact hT.1
  have hB : allB s (f + a) b = true := by rw [allB_app] at hT; simp at hT; exact hT.2
  have hJ : Hid _ := join_at s f a b hT
  have hD : Hid (∀ j, j < a + b → 48 ≤ bt s (f + j) ∧ bt s (f + j) ≤ 57) := fun j hj => allB_at s f (a + b) j hT hj
  go_enter Try.func4, Try.ntmps4
  go_wp2_with (go_at_call 12; refine (zb4 s _ _ _ (by omega) _).mono ?_; rintro e w' ⟨rfl, rfl⟩)
  refine (zd_at s _ _ f (a + b) rfl (by omega) hl (by omega) _).mono ?_
  rintro e w' ⟨rfl, rfl⟩
  go_wp2_with fail
  refine (zd_at s _ _ f a rfl rfl hl (by omega) _).mono ?_
  rintro e w' ⟨rfl, rfl⟩
  go_wp2_with fail
  refine (zd_at s _ _ (f + a) b (by omega) (by omega) hl (by omega) _).mono ?_
  rintro e w' ⟨rfl, rfl⟩
  go_wp2_with fail
  go_loop [15, 16] (fun v i => ∃ j : Nat, j ≤ a + b ∧ i = .int .i64 ((f : Int) + j) ∧ v = .bool true) (fun _ i => f + a + b - (intOf i).toNat)
  case atStart => exact ⟨0, Nat.zero_le _, by simp, congrArg Value.bool (decide_eq_true (by omega))⟩
  case round =>
    obtain ⟨j, hj, rfl, rfl⟩ := hrel
    by_cases hlt : j < a + b
    · have hks : f + j < s.size := by omega
      have he := bt_eq s (f + j) hks
      obtain ⟨d1, d2⟩ := hD.out j hlt
      go_wp2
      go_round
      case rel => exact ⟨j + 1, by omega, by go_num, rfl⟩
      case measure => simp [intOf]; omega
    · go_wp2
      go_loop [17, 18] (fun p i => ∃ j : Nat, j ≤ b ∧ i = .int .i64 ((f : Int) + a + j) ∧ p = .int .i64 (wrap64 (10 ^ j))) (fun _ i => f + a + b - (intOf i).toNat)
      case atStart => exact ⟨0, Nat.zero_le _, by simp, congrArg (Value.int .i64) one_wrap⟩
      case round =>
        obtain ⟨j2, hj2, rfl, rfl⟩ := hrel
        by_cases hlt2 : j2 < b
        · have hpw : Hid _ := pow_step j2
          go_wp2
          go_round
          case rel => exact ⟨j2 + 1, by omega, by go_num, congrArg (Value.int .i64) hpw.out⟩
          case measure => simp [intOf]; omega
        · have hjb : j2 = b := by omega
          subst hjb
          have hJ' := hJ.out
          go_wp2
          go_ret
          exact ⟨rfl, rfl⟩

set_option maxHeartbeats 800000 in
theorem join_no (s : ByteArray) (f a b : Nat) (hl : s.size ≤ 1048576) (hin : f + a + b ≤ s.size) (hT : allB s f (a + b) = false) (w : World) :
    Calls Try.prog 4 #[.string s, .int .i64 f, .int .i64 ((f : Int) + a), .int .i64 ((f : Int) + a + b)] w fun e w' => e = .returned (.bool true) ∧ w' = w := by
  have hdec : decide (s.size ≤ 1048576) = true := decide_eq_true hl
  have hN := dN_no s f (a + b) hT
  have hAB : Hid (allB s f a = false ∨ allB s (f + a) b = false) := by
    show _ ∨ _
    rw [allB_app] at hT
    cases h : allB s f a <;> simp [h] at hT
    · exact .inl rfl
    · exact .inr hT
  go_enter Try.func4, Try.ntmps4
  go_wp2_with (go_at_call 12; refine (zb4 s _ _ _ (by omega) _).mono ?_; rintro e w' ⟨rfl, rfl⟩)
  refine (zd_at s _ _ f (a + b) rfl (by omega) hl (by omega) _).mono ?_
  rintro e w' ⟨rfl, rfl⟩
  go_wp2_with fail
  refine (zd_at s _ _ f a rfl rfl hl (by omega) _).mono ?_
  rintro e w' ⟨rfl, rfl⟩
  go_wp2_with fail
  refine (zd_at s _ _ (f + a) b (by omega) (by omega) hl (by omega) _).mono ?_
  rintro e w' ⟨rfl, rfl⟩
  go_wp2_with fail
  go_loop [15, 16] (fun v i => ∃ j : Nat, j ≤ a + b ∧ i = .int .i64 ((f : Int) + j) ∧ v = .bool (allB s f j)) (fun _ i => f + a + b - (intOf i).toNat)
  case atStart => exact ⟨0, Nat.zero_le _, by simp, congrArg Value.bool (decide_eq_true (by omega))⟩
  case round =>
    obtain ⟨j, hj, rfl, rfl⟩ := hrel
    cases hb : allB s f j
    · rcases hAB.out with h | h
      · go_wp2
        go_ret
        exact ⟨rfl, rfl⟩
      · cases ha : allB s f a
        · go_wp2
          go_ret
          exact ⟨rfl, rfl⟩
        · go_wp2
          go_ret
          exact ⟨rfl, rfl⟩
    · have hlt : j < a + b := by
        by_cases e : j = a + b
        · rw [e, hT] at hb; cases hb
        · omega
      have hks : f + j < s.size := by omega
      have he := bt_eq s (f + j) hks
      by_cases h2 : 48 ≤ bt s (f + j)
      · by_cases h3 : bt s (f + j) ≤ 57
        · have hn : Hid (true = allB s f (j + 1)) := by show _ = _; simp [allB, isD, hb, h2, h3]
          go_wp2
          go_round
          case rel => exact ⟨j + 1, by omega, by go_num, congrArg Value.bool hn.out⟩
          case measure => simp [intOf]; omega
        · have hn : Hid (false = allB s f (j + 1)) := by show _ = _; simp [allB, isD, h3]
          go_wp2
          go_round
          case rel => exact ⟨j + 1, by omega, by go_num, congrArg Value.bool hn.out⟩
          case measure => simp [intOf]; omega
      · have hn : Hid (false = allB s f (j + 1)) := by show _ = _; simp [allB, isD, h2]
        go_wp2
        go_round
        case rel => exact ⟨j + 1, by omega, by go_num, congrArg Value.bool hn.out⟩
        case measure => simp [intOf]; omega

theorem join_walk (s : ByteArray) (f k t : Int) (hs : s.size ≤ 9223372036854775807) (w : World) :
    Calls Try.prog 4 #[.string s, .int .i64 f, .int .i64 k, .int .i64 t] w fun e w' => e = .returned (.bool true) ∧ w' = w := by
  by_cases h : 1048576 < s.size ∨ f < 0 ∨ k < f ∨ t < k
  · exact join_early s f k t hs h w
  · have hl : s.size ≤ 1048576 := by omega
    obtain ⟨fN, rfl⟩ := Int.eq_ofNat_of_zero_le (show 0 ≤ f by omega)
    obtain ⟨a, ha⟩ := Int.eq_ofNat_of_zero_le (show 0 ≤ k - fN by omega)
    obtain rfl : k = (fN : Int) + a := by omega
    by_cases h3 : (s.size : Int) < t
    · by_cases h4 : (s.size : Int) < (fN : Int) + a
      · exact join_long s fN _ t hl (by omega) (by omega) (by omega) h3 0 false (fun w => zd_long s _ _ hl h4 w) w
      · exact join_long s fN _ t hl (by omega) (by omega) (by omega) h3 _ _ (fun w => zd_at s _ _ fN a rfl rfl hl (by omega) w) w
    · obtain ⟨b, hb⟩ := Int.eq_ofNat_of_zero_le (show 0 ≤ t - ((fN : Int) + a) by omega)
      obtain rfl : t = (fN : Int) + a + b := by omega
      cases hT : allB s fN (a + b)
      · exact join_no s fN a b hl (by omega) hT w
      · exact join_yes s fN a b hl (by omega) hT w
end Go.Proofs.Qxb6619407a
