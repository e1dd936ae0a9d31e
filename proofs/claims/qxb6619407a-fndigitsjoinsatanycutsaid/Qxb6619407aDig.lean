/-
  DIGITS, PLAINLY: bytes, digit ranges, their value; sums and products modulo two to the sixty-fourth.
-/
import Derived.RowKit
namespace Go.Proofs.Qxb6619407a
open Go.RowKit

/-! ### wraps -/
theorem wrap_shift (x t : Int) : wrap64 (x + 18446744073709551616 * t) = wrap64 x := by unfold wrap64; omega
theorem wrap_ex (x : Int) : ∃ t, wrap64 x = x + 18446744073709551616 * t := ⟨-((x + 9223372036854775808) / 18446744073709551616), by unfold wrap64; omega⟩
theorem wrap_addL (x y : Int) : wrap64 (wrap64 x + y) = wrap64 (x + y) := by unfold wrap64; omega
theorem wrap_addR (x y : Int) : wrap64 (x + wrap64 y) = wrap64 (x + y) := by unfold wrap64; omega
theorem wrap_mulL (x y : Int) : wrap64 (wrap64 x * y) = wrap64 (x * y) := by
  obtain ⟨t, ht⟩ := wrap_ex x
  rw [ht, Int.add_mul, Int.mul_assoc, wrap_shift]
theorem wrap_mulR (x y : Int) : wrap64 (x * wrap64 y) = wrap64 (x * y) := by
  rw [Int.mul_comm, wrap_mulL, Int.mul_comm]

/-! ### digits -/
/-- the byte at place k -/
def bt (s : ByteArray) (k : Nat) : Int := if h : k < s.size then (s[k].toNat : Int) else 0
theorem bt_eq (s : ByteArray) (k : Nat) (h : k < s.size) : ((s[k]'h).toNat : Int) = bt s k := by simp [bt, h]
theorem bt_bd (s : ByteArray) (k : Nat) : 0 ≤ bt s k ∧ bt s k ≤ 255 := by
  unfold bt
  split
  · rename_i h
    have := s[k].toNat_lt
    omega
  · omega
def isD (b : Int) : Bool := decide (48 ≤ b ∧ b ≤ 57)
/-- are the n bytes from f on all digits? -/
def allB (s : ByteArray) (f : Nat) : Nat → Bool
  | 0 => true
  | n + 1 => allB s f n && isD (bt s (f + n))
/-- the number that the n bytes from f on write -/
def hv (s : ByteArray) (f : Nat) : Nat → Int
  | 0 => 0
  | n + 1 => 10 * hv s f n + (bt s (f + n) - 48)
theorem allB_mono (s : ByteArray) (f n m : Nat) (h : n ≤ m) (hm : allB s f m = true) : allB s f n = true := by
  induction m with
  | zero => have : n = 0 := by omega
            subst this; rfl
  | succ m ih =>
    by_cases e : n = m + 1
    · subst e; exact hm
    · refine ih (by omega) ?_
      simp [allB] at hm
      exact hm.1
theorem allB_stop (s : ByteArray) (f k n : Nat) (h : k < n) (hd : isD (bt s (f + k)) = false) : allB s f n = false := by
  cases e : allB s f n with
  | false => rfl
  | true =>
    have := allB_mono s f (k + 1) n (by omega) e
    simp [allB, hd] at this
theorem allB_app (s : ByteArray) (f a b : Nat) : allB s f (a + b) = (allB s f a && allB s (f + a) b) := by
  induction b with
  | zero => simp [allB]
  | succ b ih => rw [← Nat.add_assoc]; simp only [allB]; rw [ih, Bool.and_assoc, Nat.add_assoc f a b]
theorem hv_app (s : ByteArray) (f a b : Nat) : hv s f (a + b) = hv s f a * 10 ^ b + hv s (f + a) b := by
  induction b with
  | zero => simp [hv]
  | succ b ih =>
    rw [← Nat.add_assoc]
    simp only [hv]
    rw [ih, Nat.add_assoc f a b, Int.pow_succ, ← Int.mul_assoc]
    omega
theorem allB_cons (s : ByteArray) (f n : Nat) : allB s f (n + 1) = (isD (bt s f) && allB s (f + 1) n) := by
  have := allB_app s f 1 n
  rw [Nat.add_comm 1 n] at this
  rw [this]; simp [allB]
theorem hv_cons (s : ByteArray) (f n : Nat) : hv s f (n + 1) = (bt s f - 48) * 10 ^ n + hv s (f + 1) n := by
  have := hv_app s f 1 n
  rw [Nat.add_comm 1 n] at this
  rw [this]; simp [hv]
/-- what digits answers over n bytes from f on -/
def dN (s : ByteArray) (f n : Nat) : Int := if allB s f n then wrap64 (hv s f n) else 0
theorem dN_yes (s : ByteArray) (f n : Nat) (h : allB s f n = true) : dN s f n = wrap64 (hv s f n) := by simp [dN, h]
theorem dN_no (s : ByteArray) (f n : Nat) (h : allB s f n = false) : dN s f n = 0 := by simp [dN, h]
/-- a round of digits -/
theorem hv_step (s : ByteArray) (f k : Nat) : wrap64 (wrap64 (10 * wrap64 (hv s f k)) + (bt s (f + k) - 48)) = wrap64 (hv s f (k + 1)) := by
  rw [wrap_addL]
  have : wrap64 (10 * wrap64 (hv s f k) + (bt s (f + k) - 48)) = wrap64 (wrap64 (10 * wrap64 (hv s f k)) + (bt s (f + k) - 48)) := (wrap_addL _ _).symm
  rw [this, wrap_mulR, wrap_addL]; rfl
/-- a round of the model: from the right -/
theorem rv_step (s : ByteArray) (f n : Nat) : wrap64 (wrap64 (hv s (f + 1) n) + wrap64 ((bt s f - 48) * wrap64 (10 ^ n))) = wrap64 (hv s f (n + 1)) := by
  rw [wrap_mulR, wrap_addR, wrap_addL, hv_cons, Int.add_comm]
theorem pow_step (n : Nat) : wrap64 (wrap64 (10 ^ n) * 10) = wrap64 (10 ^ (n + 1)) := by
  rw [wrap_mulL, Int.pow_succ]
/-- the join at a cut -/
theorem join_at (s : ByteArray) (f a b : Nat) (h : allB s f (a + b) = true) : wrap64 (wrap64 (dN s f a * wrap64 (10 ^ b)) + dN s (f + a) b) = dN s f (a + b) := by
  have h2 := h
  rw [allB_app] at h2
  simp at h2
  rw [dN_yes _ _ _ h, dN_yes _ _ _ h2.1, dN_yes _ _ _ h2.2, wrap_mulR, wrap_mulL, wrap_addR, wrap_addL, hv_app]
end Go.Proofs.Qxb6619407a
