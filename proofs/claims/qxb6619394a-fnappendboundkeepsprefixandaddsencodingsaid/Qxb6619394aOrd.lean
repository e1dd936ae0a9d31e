/-
  THE CONTRACTS OF boundOrder AND compareBytes.
-/
import Derived.Test.Qxb6619394aRows
import Derived.WalkKit
import Derived.WalkSpells
import Derived.WalkLawsBesides
import Derived.Deep.QuietTactic
import Derived.BigQuiet
namespace Go.Proofs.Qxb6619394a
open Go.RowKit

/-- the order of two byte strings -/
def cmpL : List Int → List Int → Int
  | [], [] => 0
  | [], _ :: _ => -1
  | _ :: _, [] => 1
  | x :: xs, y :: ys => if x < y then -1 else if y < x then 1 else cmpL xs ys

/-- the byte at place k -/
def byt (X : List Int) (k : Nat) : Int := X.getD k 0
theorem drop_byt (X : List Int) (k : Nat) (h : k < X.length) : X.drop k = byt X k :: X.drop (k + 1) := by
  rw [List.drop_eq_getElem_cons h]
  simp [byt, List.getD_eq_getElem?_getD, List.getElem?_eq_getElem h]
theorem cmp_step (X Y : List Int) (k : Nat) (hx : k < X.length) (hy : k < Y.length) :
    cmpL (X.drop k) (Y.drop k) = if byt X k < byt Y k then -1 else if byt Y k < byt X k then 1 else cmpL (X.drop (k + 1)) (Y.drop (k + 1)) := by
  rw [drop_byt X k hx, drop_byt Y k hy]; rfl
theorem cmp_end (X Y : List Int) (k : Nat) (hx : X.length = k) (hy : Y.length = k) : cmpL (X.drop k) (Y.drop k) = 0 := by
  rw [List.drop_of_length_le (by omega), List.drop_of_length_le (by omega)]; rfl
theorem cmp_endl (X Y : List Int) (k : Nat) (hx : X.length = k) (hy : k < Y.length) : cmpL (X.drop k) (Y.drop k) = -1 := by
  rw [List.drop_of_length_le (by omega), drop_byt Y k hy]; rfl
theorem cmp_endr (X Y : List Int) (k : Nat) (hx : k < X.length) (hy : Y.length = k) : cmpL (X.drop k) (Y.drop k) = 1 := by
  rw [List.drop_of_length_le (l := Y) (by omega), drop_byt X k hx]; rfl

/-- bytes as cells -/
def arr (X : List Int) : Array Value := (X.map (Value.int .u8)).toArray
theorem arr_get (X : List Int) (k : Nat) (h : k < X.length) : (arr X)[k]? = some (.int .u8 (byt X k)) := by
  simp [arr, byt, List.getElem?_map, List.getElem?_eq_getElem h]
theorem arr_size (X : List Int) : (arr X).size = X.length := by simp [arr]
theorem arr_cellA (X : List Int) (o : Obj) (w : World) (k : Nat) (h : k < X.length) (q : Nat) : (((w.alloc (.cells (arr X) 23)).alloc o).drewN q).cell? ⟨w.heap.size, k, none⟩ = some (.int .u8 (byt X k)) := by
  have e : ((w.alloc (.cells (arr X) 23)).alloc o).heap[w.heap.size]? = some (.cells (arr X) 23) := heap_alloc2_old w _ _
  have := cell_of_row ((w.alloc (.cells (arr X) 23)).alloc o) w.heap.size k (arr X) 23 _ e
  simp [this, arr_get X k h]
theorem arr_cellB (X : List Int) (o : Obj) (w : World) (k : Nat) (h : k < X.length) (q : Nat) : (((w.alloc o).alloc (.cells (arr X) 23)).drewN q).cell? ⟨w.heap.size + 1, k, none⟩ = some (.int .u8 (byt X k)) := by
  have e : ((w.alloc o).alloc (.cells (arr X) 23)).heap[w.heap.size + 1]? = some (.cells (arr X) 23) := heap_alloc2_new w _ _
  have := cell_of_row ((w.alloc o).alloc (.cells (arr X) 23)) (w.heap.size + 1) k (arr X) 23 _ e
  simp [this, arr_get X k h]

theorem ret_int {k : IntKind} {a b : Int} (h : a = b) : Ending.returned (.int k a) = .returned (.int k b) := by rw [h]
theorem Below.drewN {B : Nat} {a w : World} (h : Below B a w) (n : Nat) : Below B a (w.drewN n) := ⟨h.os, h.tape, h.output, h.size, h.block⟩
theorem below2 (w : World) (o p : Obj) (q : Nat) : Below w.heap.size w (((w.alloc o).alloc p).drewN q) :=
  Below.drewN (((Below.refl _ w).alloc (Nat.le_refl _) o).alloc (by simp) p) q

theorem drewn1 (w : World) (a b : Nat) : (w.drewN a).drewN b = w.drewN (a + b) := World.drewN_drewN ..
theorem drewn2 (w : World) (a b c : Nat) : ((w.drewN a).drewN b).drewN c = w.drewN (a + b + c) := by simp

set_option maxHeartbeats 400000 in
theorem bo_both (X Y : List Int) (hX : X.length = 20) (hY : Y.length = 20) (w : World) :
    Calls Try.prog 9 #[.bool true, .agg (arr X), .bool true, .agg (arr Y)] w fun e w' => e = .returned (.int .i64 (cmpL X Y)) ∧ Below w.heap.size w w' := by
  go_enter Try.func9, Try.ntmps9
  go_wp2
  go_loopw [9] (fun i wr => ∃ k q : Nat, k ≤ 20 ∧ i = .int .i64 k ∧ Hid (wr = ((w.alloc (.cells (arr X) 23)).alloc (.cells (arr Y) 23)).drewN q) ∧ Hid (cmpL (X.drop k) (Y.drop k) = cmpL X Y)) (fun i _ => 20 - (intOf i).toNat)
  case atStart => exact ⟨0, 0, Nat.zero_le _, rfl, rfl, rfl⟩
  case round =>
    obtain ⟨k, q, hk, rfl, hw, hc⟩ := hrel
    have hw' : wr = _ := hw.out
    subst hw'
    have hc' : _ = _ := hc.out
    by_cases hlt : k < 20
    · have cA := arr_cellA X (.cells (arr Y) 23) w k (by omega) 0
      have cB := arr_cellB Y (.cells (arr X) 23) w k (by omega) 0
      simp only [World.drewN_zero] at cA cB
      have hs : Hid _ := (cmp_step X Y k (by omega) (by omega))
      clear hw hc'
      by_cases h1 : byt X k < byt Y k
      · have hr : Hid (-1 = cmpL X Y) := by show _ = _; rw [← hc.out, hs.out, if_pos h1]
        go_wp2
        go_quiet (fail)
        go_wp2
        go_ret
        exact ⟨ret_int hr.out, by repeat (first | exact below2 _ _ _ _ | refine Below.drewN ?_ _)⟩
      · by_cases h2 : byt Y k < byt X k
        · have hr : Hid (1 = cmpL X Y) := by show _ = _; rw [← hc.out, hs.out, if_neg h1, if_pos h2]
          go_wp2
          go_quiet (fail)
          go_wp2
          go_quiet (fail)
          go_wp2
          go_ret
          exact ⟨ret_int hr.out, by repeat (first | exact below2 _ _ _ _ | refine Below.drewN ?_ _)⟩
        · have hr : Hid (cmpL (X.drop (k + 1)) (Y.drop (k + 1)) = cmpL X Y) := by show _ = _; rw [← hc.out, hs.out, if_neg h1, if_neg h2]
          go_wp2
          go_quiet (fail)
          go_wp2
          go_quiet (fail)
          go_wp2
          go_roundw
          case rel => exact ⟨k + 1, _, by omega, by go_num, by first | exact rfl | exact drewn2 _ _ _ _ | exact drewn1 _ _ _, hr⟩
          case measure => simp [intOf]; omega
    · have hk20 : k = 20 := by omega
      subst hk20
      clear hw hc'
      go_wp2
      go_ret
      exact ⟨ret_int (by rw [← hc.out, cmp_end X Y 20 hX hY]), by repeat (first | exact below2 _ _ _ _ | refine Below.drewN ?_ _)⟩

/-- the order of two bounds -/
def bnd : Bool → List Int → Bool → List Int → Int
  | false, _, false, _ => 0
  | false, _, true, _ => -1
  | true, _, false, _ => 1
  | true, X, true, Y => cmpL X Y

set_option maxHeartbeats 400000 in
theorem bo_any (hx : Bool) (X : List Int) (hy : Bool) (Y : List Int) (hX : X.length = 20) (hY : Y.length = 20) (w : World) :
    Calls Try.prog 9 #[.bool hx, .agg (arr X), .bool hy, .agg (arr Y)] w fun e w' => e = .returned (.int .i64 (bnd hx X hy Y)) ∧ Below w.heap.size w w' := by
  cases hx <;> cases hy
  · go_enter Try.func9, Try.ntmps9
    go_wp2
    go_ret
    exact ⟨rfl, ((Below.refl _ w).alloc (Nat.le_refl _) _).alloc (by simp) _⟩
  · go_enter Try.func9, Try.ntmps9
    go_wp2
    go_ret
    exact ⟨rfl, ((Below.refl _ w).alloc (Nat.le_refl _) _).alloc (by simp) _⟩
  · go_enter Try.func9, Try.ntmps9
    go_wp2
    go_ret
    exact ⟨rfl, ((Below.refl _ w).alloc (Nat.le_refl _) _).alloc (by simp) _⟩
  · exact bo_both X Y hX hY w

set_option maxHeartbeats 800000 in
theorem cb_any (A B : List Int) (ga gb la lb ca cb : Nat) (hA : A.length = la) (hB : B.length = lb) (ba : la ≤ 3000000) (bb : lb ≤ 3000000) (w : World)
    (cA : ∀ k, k < la → w.cell? ⟨ga, k, none⟩ = some (.int .u8 (byt A k))) (cB : ∀ k, k < lb → w.cell? ⟨gb, k, none⟩ = some (.int .u8 (byt B k))) :
    Calls Try.prog 8 #[.slice (some ⟨ga, 0, none⟩) la ca, .slice (some ⟨gb, 0, none⟩) lb cb] w fun e w' => e = .returned (.int .i64 (cmpL A B)) ∧ ∃ q, w' = w.drewN q := by
  by_cases hl : lb < la
  · go_enter Try.func8, Try.ntmps8
    go_wp2
    go_loopw [6] (fun i wr => ∃ k q : Nat, k ≤ lb ∧ i = .int .i64 k ∧ Hid (wr = w.drewN q) ∧ Hid (cmpL (A.drop k) (B.drop k) = cmpL A B)) (fun i _ => lb - (intOf i).toNat)
    case atStart => exact ⟨0, 0, Nat.zero_le _, rfl, rfl, rfl⟩
    case round =>
      obtain ⟨k, q, hk, rfl, hw, hc⟩ := hrel
      have hw' : wr = _ := hw.out
      subst hw'
      by_cases hlt : k < lb
      · have gA := cA k (by omega)
        have gB := cB k (by omega)
        have hs : Hid _ := (cmp_step A B k (by omega) (by omega))
        clear hw cA cB
        by_cases h1 : byt A k < byt B k
        · have hr : Hid (-1 = cmpL A B) := by show _ = _; rw [← hc.out, hs.out, if_pos h1]
          go_wp2
          go_quiet (fail)
          go_wp2
          go_ret
          exact ⟨ret_int hr.out, _, by first | exact rfl | exact drewn2 _ _ _ _ | exact drewn1 _ _ _⟩
        · by_cases h2 : byt B k < byt A k
          · have hr : Hid (1 = cmpL A B) := by show _ = _; rw [← hc.out, hs.out, if_neg h1, if_pos h2]
            go_wp2
            go_quiet (fail)
            go_wp2
            go_quiet (fail)
            go_wp2
            go_ret
            exact ⟨ret_int hr.out, _, by first | exact rfl | exact drewn2 _ _ _ _ | exact drewn1 _ _ _⟩
          · have hr : Hid (cmpL (A.drop (k + 1)) (B.drop (k + 1)) = cmpL A B) := by show _ = _; rw [← hc.out, hs.out, if_neg h1, if_neg h2]
            go_wp2
            go_quiet (fail)
            go_wp2
            go_quiet (fail)
            go_wp2
            go_roundw
            case rel => exact ⟨k + 1, _, by omega, by go_num, by first | exact rfl | exact drewn2 _ _ _ _ | exact drewn1 _ _ _, hr⟩
            case measure => simp [intOf]; omega
      · have hkk : k = lb := by omega
        clear hw cA cB
        have hr : Hid (1 = cmpL A B) := by show _ = _; rw [← hc.out, hkk, cmp_endr A B lb (by omega) hB]
        go_wp2
        go_ret
        exact ⟨ret_int hr.out, _, rfl⟩
  · by_cases he : la < lb
    · go_enter Try.func8, Try.ntmps8
      go_wp2
      go_loopw [6] (fun i wr => ∃ k q : Nat, k ≤ la ∧ i = .int .i64 k ∧ Hid (wr = w.drewN q) ∧ Hid (cmpL (A.drop k) (B.drop k) = cmpL A B)) (fun i _ => la - (intOf i).toNat)
      case atStart => exact ⟨0, 0, Nat.zero_le _, rfl, rfl, rfl⟩
      case round =>
        obtain ⟨k, q, hk, rfl, hw, hc⟩ := hrel
        have hw' : wr = _ := hw.out
        subst hw'
        by_cases hlt : k < la
        · have gA := cA k (by omega)
          have gB := cB k (by omega)
          have hs : Hid _ := (cmp_step A B k (by omega) (by omega))
          clear hw cA cB
          by_cases h1 : byt A k < byt B k
          · have hr : Hid (-1 = cmpL A B) := by show _ = _; rw [← hc.out, hs.out, if_pos h1]
            go_wp2
            go_quiet (fail)
            go_wp2
            go_ret
            exact ⟨ret_int hr.out, _, by first | exact rfl | exact drewn2 _ _ _ _ | exact drewn1 _ _ _⟩
          · by_cases h2 : byt B k < byt A k
            · have hr : Hid (1 = cmpL A B) := by show _ = _; rw [← hc.out, hs.out, if_neg h1, if_pos h2]
              go_wp2
              go_quiet (fail)
              go_wp2
              go_quiet (fail)
              go_wp2
              go_ret
              exact ⟨ret_int hr.out, _, by first | exact rfl | exact drewn2 _ _ _ _ | exact drewn1 _ _ _⟩
            · have hr : Hid (cmpL (A.drop (k + 1)) (B.drop (k + 1)) = cmpL A B) := by show _ = _; rw [← hc.out, hs.out, if_neg h1, if_neg h2]
              go_wp2
              go_quiet (fail)
              go_wp2
              go_quiet (fail)
              go_wp2
              go_roundw
              case rel => exact ⟨k + 1, _, by omega, by go_num, by first | exact rfl | exact drewn2 _ _ _ _ | exact drewn1 _ _ _, hr⟩
              case measure => simp [intOf]; omega
        · have hkk : k = la := by omega
          clear hw cA cB
          have hr : Hid (-1 = cmpL A B) := by show _ = _; rw [← hc.out, hkk, cmp_endl A B la hA (by omega)]
          go_wp2
          go_ret
          exact ⟨ret_int hr.out, _, rfl⟩
    · have he2 : lb = la := by omega
      subst he2
      go_enter Try.func8, Try.ntmps8
      go_wp2
      go_loopw [6] (fun i wr => ∃ k q : Nat, k ≤ lb ∧ i = .int .i64 k ∧ Hid (wr = w.drewN q) ∧ Hid (cmpL (A.drop k) (B.drop k) = cmpL A B)) (fun i _ => lb - (intOf i).toNat)
      case atStart => exact ⟨0, 0, Nat.zero_le _, rfl, rfl, rfl⟩
      case round =>
        obtain ⟨k, q, hk, rfl, hw, hc⟩ := hrel
        have hw' : wr = _ := hw.out
        subst hw'
        by_cases hlt : k < lb
        · have gA := cA k (by omega)
          have gB := cB k (by omega)
          have hs : Hid _ := (cmp_step A B k (by omega) (by omega))
          clear hw cA cB
          by_cases h1 : byt A k < byt B k
          · have hr : Hid (-1 = cmpL A B) := by show _ = _; rw [← hc.out, hs.out, if_pos h1]
            go_wp2
            go_quiet (fail)
            go_wp2
            go_ret
            exact ⟨ret_int hr.out, _, by first | exact rfl | exact drewn2 _ _ _ _ | exact drewn1 _ _ _⟩
          · by_cases h2 : byt B k < byt A k
            · have hr : Hid (1 = cmpL A B) := by show _ = _; rw [← hc.out, hs.out, if_neg h1, if_pos h2]
              go_wp2
              go_quiet (fail)
              go_wp2
              go_quiet (fail)
              go_wp2
              go_ret
              exact ⟨ret_int hr.out, _, by first | exact rfl | exact drewn2 _ _ _ _ | exact drewn1 _ _ _⟩
            · have hr : Hid (cmpL (A.drop (k + 1)) (B.drop (k + 1)) = cmpL A B) := by show _ = _; rw [← hc.out, hs.out, if_neg h1, if_neg h2]
              go_wp2
              go_quiet (fail)
              go_wp2
              go_quiet (fail)
              go_wp2
              go_roundw
              case rel => exact ⟨k + 1, _, by omega, by go_num, by first | exact rfl | exact drewn2 _ _ _ _ | exact drewn1 _ _ _, hr⟩
              case measure => simp [intOf]; omega
        · have hkk : k = lb := by omega
          clear hw cA cB
          have hr : Hid (0 = cmpL A B) := by show _ = _; rw [← hc.out, hkk, cmp_end A B lb hA hB]
          go_wp2
          go_ret
          exact ⟨ret_int hr.out, _, rfl⟩
end Go.Proofs.Qxb6619394a
