/-
  THE CONTRACTS OF cloneBytes AND OF THE BOUND ON TOTAL LENGTH.
-/
import Derived.Test.Qxb6619394aParts
namespace Go.Proofs.Qxb6619394a
open Go.RowKit

set_option maxHeartbeats 400000 in
theorem zb_any (a : Option Addr) (len cap : Nat) (hS : Bool) (S : List Int) (hl : len ≤ 9223372036854775807) (w : World) :
    Calls Try.prog 5 #[.slice a len cap, .bool hS, .agg (arr S)] w fun e w' => e = .returned (.bool (decide (len ≤ 1048576))) ∧ w' = w.alloc (.cells (arr S) 23) := by
  by_cases h : len ≤ 1048576
  · rw [decide_eq_true h]
    go_enter Try.func5, Try.ntmps5
    go_wp2
    go_ret
    exact ⟨rfl, rfl⟩
  · rw [decide_eq_false h]
    have h' : (1048576 : Int) < (len : Int) := by omega
    go_enter Try.func5, Try.ntmps5
    go_wp2
    go_ret
    exact ⟨rfl, rfl⟩

set_option maxHeartbeats 400000 in
theorem clone_nil (w : World) : Calls Try.prog 6 #[.slice none 0 0] w fun e w' => e = .returned (.slice none 0 0) ∧ w' = w := by
  have kc := @Lib.run_eql_slice_nil Try.prog
  go_enter Try.func6, Try.ntmps6
  go_wp2
  go_ret
  exact ⟨rfl, rfl⟩

/-- the clone behind k rounds -/
def mix (Z : List Int) (k : Nat) : List Int := Z.take k ++ List.replicate (Z.length - k) 0
theorem mix_length (Z : List Int) (k : Nat) (h : k ≤ Z.length) : (mix Z k).length = Z.length := by simp [mix]; omega
theorem mix_all (Z : List Int) : mix Z Z.length = Z := by simp [mix]
theorem mix_zero (Z : List Int) : cel (mix Z 0) = (madeCells (Value.int .u8 0).cells (Z.length * 1)).toList := by
  apply List.ext_getElem?
  intro i
  by_cases h : i < Z.length
  · simp [mix, cel, madeCells, Value.cells, h, Nat.mod_one]
  · simp [mix, cel, madeCells, h]
theorem mix_succ (Z : List Int) (k : Nat) (h : k < Z.length) : (cel (mix Z k)).set k (.int .u8 (byt Z k)) = cel (mix Z (k + 1)) := by
  have e1 : Z.length - k = Z.length - (k + 1) + 1 := by omega
  have e2 : (mix Z k).set k (byt Z k) = mix Z (k + 1) := by
    unfold mix
    rw [e1, List.replicate_succ, List.set_append_right _ _ (by simp; omega)]
    have e3 : k - (Z.take k).length = 0 := by simp; omega
    have e4 : byt Z k = Z[k] := by simp [byt, List.getElem?_eq_getElem h]
    rw [e3, List.set_cons_zero, List.take_succ_eq_append_getElem h, e4]
    simp only [List.append_assoc, List.cons_append, List.nil_append]
  unfold cel
  rw [← e2, List.map_set]

set_option maxHeartbeats 400000 in
theorem clone_row (b off len cap : Nat) (Z : List Int) (hZ : Z.length = len) (hl : len ≤ 1048576) (w : World) (hc : ∀ i, i < len → w.cell? ⟨b, off + i, none⟩ = some (.int .u8 (byt Z i))) :
    Calls Try.prog 6 #[.slice (some ⟨b, off, none⟩) len cap] w fun e w' => e = .returned (.slice (some ⟨w.heap.size, 0, none⟩) len len) ∧
      w'.ownsRow w.heap.size 5 1 (.slice (some ⟨w.heap.size, 0, none⟩) len len) len (cel Z) ∧ w.grownBy w' none := by
  obtain ⟨i0, hi, hz0, hz1, hz2⟩ := info_parts Try.info5
  have kc := fun w => Lib.run_eql_slice_nil (P := Try.prog) w 22 5 (some ⟨b, off, none⟩) len cap 0 0 Try.underlying22
  go_enter Try.func6, Try.ntmps6
  go_wp2_with (at_make; refine wpList_make_full _ rfl _ _ 22 rfl w.heap.size 5 i0 (.int .u8 0) 1 Try.underlying22 hi hz0 hz1 .i64 .i64 _ _ len rfl rfl rfl rfl (by rw [hz2]; omega) (by unfold maxLen; omega) (Nat.le_refl _) ?_; intro w0 hown0 hgrow0)
  rw [← hZ, ← mix_zero] at hown0
  go_loopw [4] (fun i wr => ∃ k : Nat, k ≤ len ∧ i = .int .i64 k ∧ wr.ownsRow w.heap.size 5 1 (.slice (some ⟨w.heap.size, 0, none⟩) len len) len (cel (mix Z k)) ∧ w.grownBy wr none) (fun i _ => len - (intOf i).toNat)
  case atStart => exact ⟨0, Nat.zero_le _, rfl, by rw [← hZ]; exact hown0, hgrow0⟩
  case round =>
    obtain ⟨k, hk, rfl, hown, hg⟩ := hrel
    clear hown0 hgrow0
    by_cases hlt : k < len
    · have c1 := hg.cell (hc k hlt) (by simp)
      have c2 := hown.cellAt k (by omega)
      rw [cel_get _ _ (by rw [mix_length _ _ (by omega)]; omega)] at c2
      have c3 := hown.frozenAt k
      obtain ⟨o1, g1⟩ := hown.stored k (.int .u8 (byt Z k))
      rw [mix_succ Z k (by omega)] at o1
      clear hown
      go_wp2
      go_roundw
      case rel => exact ⟨k + 1, by omega, by go_num, o1, hg.andThen g1 (fun j hj => by simp at hj; omega)⟩
      case measure => simp [intOf]; omega
    · have hkk : k = len := by omega
      subst hkk
      go_wp2
      go_ret
      refine ⟨rfl, ?_, hg⟩
      have e := mix_all Z
      rw [hZ] at e
      rw [e] at hown
      exact hown

set_option maxHeartbeats 400000 in
theorem clone_empty (x : Addr) (cap : Nat) (w : World) :
    Calls Try.prog 6 #[.slice (some x) 0 cap] w fun e w' => e = .returned (.slice (some ⟨w.heap.size, 0, none⟩) 0 0) ∧
      w'.ownsRow w.heap.size 5 1 (.slice (some ⟨w.heap.size, 0, none⟩) 0 0) 0 (cel []) ∧ w.grownBy w' none := by
  obtain ⟨i0, hi, hz0, hz1, hz2⟩ := info_parts Try.info5
  have kc := fun w => Lib.run_eql_slice_nil (P := Try.prog) w 22 5 (some x) 0 cap 0 0 Try.underlying22
  go_enter Try.func6, Try.ntmps6
  go_wp2_with (at_make; refine wpList_make_full _ rfl _ _ 22 rfl w.heap.size 5 i0 (.int .u8 0) 1 Try.underlying22 hi hz0 hz1 .i64 .i64 _ _ 0 rfl rfl rfl rfl (by omega) (by unfold maxLen; omega) (Nat.le_refl _) ?_; intro w0 hown0 hgrow0)
  refine wp_loop_rounds 1 ?_
  rw [rounds_succ]
  go_wp2
  go_ret
  exact ⟨rfl, by simpa [cel, madeCells] using hown0, hgrow0⟩
end Go.Proofs.Qxb6619394a
