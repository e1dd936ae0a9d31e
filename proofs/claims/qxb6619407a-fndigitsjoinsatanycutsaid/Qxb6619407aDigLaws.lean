/-
  THE WALKS OF FnDigitsIsPlaceValueSum AND FnDigitsJoinsAtAnyCut.
-/
import Derived.Test.Qxb6619407aDigWalks
namespace Go.Proofs.Qxb6619407a
open Go.RowKit
set_option linter.unusedVariables false

set_option maxHeartbeats 400000 in
theorem zb3 (s : ByteArray) (f t : Int) (hs : s.size ≤ 9223372036854775807) (w : World) :
    Calls Try.prog 9 #[.string s, .int .i64 f, .int .i64 t] w fun e w' => e = .returned (.bool (decide (s.size ≤ 1048576))) ∧ w' = w := by
  by_cases h : s.size ≤ 1048576
  · rw [decide_eq_true h]
    go_enter Try.func9, Try.ntmps9
    go_wp2
    go_ret
    exact ⟨rfl, rfl⟩
  · rw [decide_eq_false h]
    have h' : (1048576 : Int) < (s.size : Int) := by omega
    go_enter Try.func9, Try.ntmps9
    go_wp2
    go_ret
    exact ⟨rfl, rfl⟩
set_option maxHeartbeats 400000 in
theorem zb4 (s : ByteArray) (f k t : Int) (hs : s.size ≤ 9223372036854775807) (w : World) :
    Calls Try.prog 12 #[.string s, .int .i64 f, .int .i64 k, .int .i64 t] w fun e w' => e = .returned (.bool (decide (s.size ≤ 1048576))) ∧ w' = w := by
  by_cases h : s.size ≤ 1048576
  · rw [decide_eq_true h]
    go_enter Try.func12, Try.ntmps12
    go_wp2
    go_ret
    exact ⟨rfl, rfl⟩
  · rw [decide_eq_false h]
    have h' : (1048576 : Int) < (s.size : Int) := by omega
    go_enter Try.func12, Try.ntmps12
    go_wp2
    go_ret
    exact ⟨rfl, rfl⟩

/-- ZZDigits over a range that lies in s, the ends said as integers. -/
theorem zd_at (s : ByteArray) (F T : Int) (f n : Nat) (hF : F = f) (hT : T = (f : Int) + n) (hs : s.size ≤ 1048576) (h : f + n ≤ s.size) (w : World) :
    Calls Try.prog 10 #[.string s, .int .i64 F, .int .i64 T] w fun e w' => e = .returned (.tuple #[.int .i64 (dN s f n), .bool (allB s f n)]) ∧ w' = w := by
  subst hF; subst hT; exact zd_some s f n hs h w
theorem dm_at (s : ByteArray) (F T : Int) (f n : Nat) (hF : F = f) (hT : T = (f : Int) + n) (hs : s.size ≤ 1048576) (h : f + n ≤ s.size) (w : World) :
    Calls Try.prog 11 #[.string s, .int .i64 F, .int .i64 T] w fun e w' => e = .returned (.tuple #[.int .i64 (dN s f n), .bool (allB s f n)]) ∧ w' = w := by
  subst hF; subst hT; exact dm_some s f n hs h w

set_option maxHeartbeats 400000 in
theorem place_walk (s : ByteArray) (f t : Int) (hs : s.size ≤ 9223372036854775807) (w : World) :
    Calls Try.prog 3 #[.string s, .int .i64 f, .int .i64 t] w fun e w' => e = .returned (.bool true) ∧ w' = w := by
  by_cases hl : s.size ≤ 1048576
  · have hdec : decide (s.size ≤ 1048576) = true := decide_eq_true hl
    by_cases h1 : (s.size : Int) < t
    · by_cases h0 : f < 0
      · have h2 : f < t := by omega
        have h3 : ¬ t ≤ (s.size : Int) := by omega
        go_enter Try.func3, Try.ntmps3
        go_wp2_with (first | (go_at_call 9; refine (zb3 s f t hs _).mono ?_; rintro e w' ⟨rfl, rfl⟩) | (go_at_call 10; refine (zd_long s f t hl h1 _).mono ?_; rintro e w' ⟨rfl, rfl⟩) | (go_at_call 11; refine (dm_long s f t hl h1 _).mono ?_; rintro e w' ⟨rfl, rfl⟩))
        go_ret
        exact ⟨rfl, rfl⟩
      · go_enter Try.func3, Try.ntmps3
        go_wp2_with (first | (go_at_call 9; refine (zb3 s f t hs _).mono ?_; rintro e w' ⟨rfl, rfl⟩) | (go_at_call 10; refine (zd_long s f t hl h1 _).mono ?_; rintro e w' ⟨rfl, rfl⟩) | (go_at_call 11; refine (dm_long s f t hl h1 _).mono ?_; rintro e w' ⟨rfl, rfl⟩))
        go_ret
        exact ⟨rfl, rfl⟩
    · have h1' : t ≤ (s.size : Int) := by omega
      by_cases h2 : t ≤ f
      · have h2' : ¬ f < t := by omega
        by_cases h0 : f < 0
        · go_enter Try.func3, Try.ntmps3
          go_wp2_with (first | (go_at_call 9; refine (zb3 s f t hs _).mono ?_; rintro e w' ⟨rfl, rfl⟩) | (go_at_call 10; refine (zd_none s f t hl h1' h2 _).mono ?_; rintro e w' ⟨rfl, rfl⟩) | (go_at_call 11; refine (dm_none s f t hl h1' h2 _).mono ?_; rintro e w' ⟨rfl, rfl⟩))
          go_ret
          exact ⟨rfl, rfl⟩
        · go_enter Try.func3, Try.ntmps3
          go_wp2_with (first | (go_at_call 9; refine (zb3 s f t hs _).mono ?_; rintro e w' ⟨rfl, rfl⟩) | (go_at_call 10; refine (zd_none s f t hl h1' h2 _).mono ?_; rintro e w' ⟨rfl, rfl⟩) | (go_at_call 11; refine (dm_none s f t hl h1' h2 _).mono ?_; rintro e w' ⟨rfl, rfl⟩))
          go_ret
          exact ⟨rfl, rfl⟩
      · have h2' : f < t := by omega
        by_cases h0 : f < 0
        · go_enter Try.func3, Try.ntmps3
          go_wp2_with (go_at_call 9; refine (zb3 s f t hs _).mono ?_; rintro e w' ⟨rfl, rfl⟩)
          go_ret
          exact ⟨rfl, rfl⟩
        · have hf : f = (f.toNat : Int) := by omega
          have ht : t = (f.toNat : Int) + ((t - f).toNat : Nat) := by omega
          have hin : f.toNat + (t - f).toNat ≤ s.size := by omega
          have z1 := zd_at s f t f.toNat (t - f).toNat hf ht hl hin
          have z2 := dm_at s f t f.toNat (t - f).toNat hf ht hl hin
          generalize f.toNat = fN at z1 z2
          generalize (t - f).toNat = nN at z1 z2
          clear hf ht hin
          have Z1 : Hid _ := z1
          have Z2 : Hid _ := z2
          clear z1 z2
          go_enter Try.func3, Try.ntmps3
          go_wp2_with (first | (go_at_call 9; refine (zb3 s f t hs _).mono ?_; rintro e w' ⟨rfl, rfl⟩) | (go_at_call 10; refine (Z1.out _).mono ?_; rintro e w' ⟨rfl, rfl⟩) | (go_at_call 11; refine (Z2.out _).mono ?_; rintro e w' ⟨rfl, rfl⟩))
          go_ret
          exact ⟨rfl, rfl⟩
  · have hdec : decide (s.size ≤ 1048576) = false := decide_eq_false hl
    go_enter Try.func3, Try.ntmps3
    go_wp2_with (go_at_call 9; refine (zb3 s f t hs _).mono ?_; rintro e w' ⟨rfl, rfl⟩)
    go_ret
    exact ⟨rfl, rfl⟩
end Go.Proofs.Qxb6619407a
