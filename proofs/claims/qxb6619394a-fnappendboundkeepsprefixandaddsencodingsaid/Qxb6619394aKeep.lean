/-
  THE WALK OF FnAppendBoundKeepsPrefixAndAddsEncoding.
-/
import Derived.Test.Qxb6619394aClone
namespace Go.Proofs.Qxb6619394a
open Go.RowKit
set_option linter.unusedSimpArgs false

/-- The call's own memory: the boxed array lies there; what was there before stands. -/
structure Sv (w : World) (S : List Int) (w' : World) : Prop where
  bx : w'.heap[w.heap.size]? = some (.cells (arr S) 23)
  bel : Below w.heap.size w w'
  sz : w.heap.size + 1 ≤ w'.heap.size
theorem Sv.start (w : World) (S : List Int) : Sv w S (w.alloc (.cells (arr S) 23)) :=
  ⟨heap_alloc_new _ _, (Below.refl _ w).alloc (Nat.le_refl _) _, by simp⟩
theorem Sv.grown {w : World} {S : List Int} {w1 w2 : World} {row : Option Nat} (h : Sv w S w1) (hg : w1.grownBy w2 row) (hr : ∀ k, row = some k → w.heap.size + 1 ≤ k) : Sv w S w2 := by
  have h3 := h.sz
  have h4 := hg.size
  refine ⟨(hg.block _ (by omega) ?_).trans h.bx, h.bel.grown hg (by omega) (fun k hk => by have := hr k hk; omega), by omega⟩
  intro e; have := hr _ e.symm; omega
theorem Sv.alloc {w : World} {S : List Int} {w1 : World} (h : Sv w S w1) (o : Obj) : Sv w S (w1.alloc o) := h.grown (World.grownBy_alloc _ _ none) (fun _ h => by cases h)
/-- What is owned from a higher block on is owned from a lower one on. -/
theorem owns_base {w : World} {B B' n : Nat} {v : Value} {xs : List Value} (h : w.ownsRow B 5 1 v n xs) (hb : B' ≤ B) : w.ownsRow B' 5 1 v n xs := by
  refine ⟨h.1, ?_⟩
  rcases h.2 with h' | ⟨g, cap, cur, h1, h2, h3⟩
  · exact .inl h'
  · exact .inr ⟨g, cap, cur, h1, by omega, h3⟩
theorem enc_length (hS : Bool) (S : List Int) (h : S.length = 20) : (enc hS S).length = if hS then 21 else 1 := by
  cases hS <;> simp [enc, h]
theorem byt_left (Z E : List Int) (k : Nat) (h : k < Z.length) : byt (Z ++ E) k = byt Z k := by
  simp [byt, List.getElem?_append_left h]
theorem byt_right (Z E : List Int) (k : Nat) : byt (Z ++ E) (Z.length + k) = byt E k := by
  simp [byt, List.getElem?_append_right]
theorem byt_cons (x : Int) (E : List Int) (k : Nat) : byt (x :: E) (1 + k) = byt E k := by
  simp [byt, Nat.add_comm 1 k]
theorem cel_append (X Y : List Int) : cel (X ++ Y) = cel X ++ cel Y := by simp [cel]

/-- A slice that cloneBytes copies: what its contract says. -/
def Clones (w : World) (v : Value) (len : Nat) (Z : List Int) : Prop :=
  ∀ W, Below w.heap.size w W → Calls Try.prog 6 #[v] W fun e w' => e = .returned (.slice (some ⟨W.heap.size, 0, none⟩) len len) ∧
      w'.ownsRow W.heap.size 5 1 (.slice (some ⟨W.heap.size, 0, none⟩) len len) len (cel Z) ∧ W.grownBy w' none

set_option maxHeartbeats 1600000 in
theorem keep_row_t (a : Option Addr) (len cap : Nat) (Z S : List Int) (hZ : Z.length = len) (hS : S.length = 20) (hl : len ≤ 1048576) (w : World) (hcl : Clones w (.slice a len cap) len Z) :
    Calls Try.prog 3 #[.slice a len cap, .bool true, .agg (arr S)] w fun e w' => e = .returned (.bool true) ∧ Below w.heap.size w w' := by
  have iS : (Try.prog.info? 23).map (·.size) = some (arr S).size := by rw [arr_size, hS]; exact Try.info23
  have jS : (Try.prog.info? 27).map (·.size) = some (cel S).length := by rw [cel_length, hS]; exact Try.info27
  have st0 := Sv.start w S
  have hdec : decide (len ≤ 1048576) = true := decide_eq_true hl
  go_enter Try.func3, Try.ntmps3
  go_wp2_with (refine wpList_load_row rfl 23 (.tmp 5) rfl w.heap.size rfl 23 (arr S) (0, 0) _ st0.bx Try.underlying23 rfl iS ?_)
  refine (zb_any a len cap true S (by omega) _).mono ?_
  rintro e w1 ⟨rfl, hw1⟩
  have st1 : Sv w S w1 := by rw [hw1]; exact st0.alloc _
  clear hw1 st0
  go_wp2_with fail
  refine (hcl w1 st1.bel).mono ?_
  rintro e w2 ⟨rfl, ho2, hg2⟩
  have st2 := st1.grown hg2 (fun k hk => by cases hk)
  have z1 := st1.sz
  have z2 := (ho2.lt w1.heap.size rfl).2
  clear hcl hdec hg2 st1
  go_wp2_with fail
  refine (clone_row w1.heap.size 0 len len Z hZ hl w2 (fun i hi => by simpa using (cells_own ho2).2 i hi)).mono ?_
  rintro e w3 ⟨rfl, ho3, hg3⟩
  have st3 := st2.grown hg3 (fun k hk => by cases hk)
  have z3 := (ho3.lt w2.heap.size rfl).2
  have hr2 := ho2.kept hg3 (.inr (by simp [Value.ownBlock]))
  clear hg3 ho2 st2
  go_wp2_with (first
    | (refine wpList_load_row rfl 23 (.tmp 5) rfl w.heap.size rfl 23 (arr S) (0, 0) _ st3.bx Try.underlying23 rfl iS ?_)
    | (refine wpList_store_new rfl 27 (.tmp 9) (.tmp 29) rfl w3.heap.size rfl _ 27 (cel S) rfl rfl (by rw [cel_length, hS]; decide) jS (cel_one S) ?_; intro w4 hr4 hg4 hs4; have st4 := (st3.alloc _).grown hg4 (fun k hk => by have := st3.sz; simp at hk; omega); have ho4 := (ho3.alloc _).kept hg4 (.inr (by simp [Value.ownBlock]; omega)); have hr5 := (hr2.alloc _).kept hg4 (.inr (by simp [Value.ownBlock]; omega)); clear hg4))
  refine (zab_ser w1.heap.size len (.slice (some ⟨w1.heap.size, 0, none⟩) len len) (cel Z) w4 hr5 (by omega) (by have := st4.bel.size; omega) w3.heap.size (cel S) (by rw [cel_length]; exact hS) (fun j u hu => by simpa using hr4 j u hu) (cel_one S) (by simp [Value.ownBlock]; omega)).mono ?_
  rintro e w5 ⟨g5, c5, rfl, ho5, hg5, hat5⟩
  have st5 := st4.grown hg5 (fun k hk => by simp [Value.ownBlock] at hk; omega)
  have oo5 := ho4.kept hg5 (.inr (by simp [Value.ownBlock]; omega))
  have hr6 := rangeAt_grown hr4 hg5 (by simp [Value.ownBlock]; omega)
  clear hg5 hat5 ho4 hr2 hr5 ho3 st3 st4 hr4
  go_wp2_with fail
  refine (zab_ser w.heap.size 0 (.slice none 0 0) [] w5 (World.ownsRow_nil _ _ _ _) (by omega) st5.bel.size w3.heap.size (cel S) (by rw [cel_length]; exact hS) (fun j u hu => by simpa using hr6 j u hu) (cel_one S) (by simp [Value.ownBlock])).mono ?_
  rintro e w6 ⟨g6, c6, rfl, ho6, hg6, hat6⟩
  have st6 := st5.grown hg6 (fun k hk => by simp [Value.ownBlock] at hk)
  have or6 := ho5.kept hg6 (.inr (by simp [Value.ownBlock]))
  have oo6 := oo5.kept hg6 (.inr (by simp [Value.ownBlock]))
  simp only [Nat.zero_add, List.nil_append] at ho6
  obtain ⟨lT, cT⟩ := cells_own (A := enc true S) ho6
  obtain ⟨lR, cR⟩ := cells_own (A := Z ++ enc true S) (by rw [cel_append]; exact or6)
  have cR1 : ∀ k, k < len → w6.cell? ⟨g5, k, none⟩ = some (.int .u8 (byt Z k)) := fun k hk => by rw [cR k (by omega), byt_left _ _ _ (by omega)]
  have cR2 : ∀ k, k < 21 → w6.cell? ⟨g5, len + k, none⟩ = some (.int .u8 (byt (enc true S) k)) := fun k hk => by rw [cR _ (by omega), ← hZ, byt_right]
  have cO := (cells_own oo6).2
  have cU : ∀ k, k < 20 → w6.cell? ⟨g6, 1 + k, none⟩ = some (.int .u8 (byt S k)) := fun k hk => by rw [cT _ (by omega)]; exact congrArg (fun x => some (Value.int .u8 x)) (byt_cons 1 S k)
  have cS : ∀ k, k < 20 → w6.cell? ⟨w.heap.size, k, none⟩ = some (.int .u8 (byt S k)) := fun k hk => by rw [cell_of_row _ _ _ _ _ _ st6.bx]; exact arr_get S k (by omega)
  have bel := st6.bel
  clear hg6 hat6 ho6 or6 st5 st6 ho5 lT lR iS oo5 oo6 cR hr6 jS
  go_wp2_with fail
  go_loopw [13] (fun i wr => ∃ k q : Nat, k ≤ len ∧ i = .int .i64 k ∧ Hid (wr = w6.drewN q)) (fun i _ => len - (intOf i).toNat)
  case atStart => exact ⟨0, 0, Nat.zero_le _, rfl, rfl⟩
  case round =>
    obtain ⟨k1, q1, hk1, rfl, hw1⟩ := hrel
    have hw1' : wr = _ := hw1.out
    subst hw1'
    clear hw1
    by_cases hlt1 : k1 < len
    · have f1 := cR1 k1 (by omega)
      have f2 := cO k1 (by omega)
      clear cR1 cR2 cO cT cU cS
      go_wp2
      go_quiet (fail)
      go_wp2
      go_roundw
      case rel => exact ⟨k1 + 1, _, by omega, by go_num, by first | exact rfl | exact drewn2 _ _ _ _ | exact drewn1 _ _ _⟩
      case measure => simp [intOf]; omega
    · have hkk1 : k1 = len := by omega
      subst hkk1
      go_wp2
      go_loopw [14] (fun i wr => ∃ k q : Nat, k ≤ 21 ∧ i = .int .i64 k ∧ Hid (wr = w6.drewN q)) (fun i _ => 21 - (intOf i).toNat)
      case atStart => exact ⟨0, q1, Nat.zero_le _, rfl, rfl⟩
      case round =>
        obtain ⟨k2, q2, hk2, rfl, hw2⟩ := hrel
        have hw2' : wr = _ := hw2.out
        subst hw2'
        clear hw2
        by_cases hlt2 : k2 < 21
        · have f1 := cR2 k2 (by omega)
          have f2 := cT k2 (by omega)
          clear cR1 cR2 cO cT cU cS
          go_wp2
          go_quiet (fail)
          go_wp2
          go_roundw
          case rel => exact ⟨k2 + 1, _, by omega, by go_num, by first | exact rfl | exact drewn2 _ _ _ _ | exact drewn1 _ _ _⟩
          case measure => simp [intOf]; omega
        · have hkk2 : k2 = 21 := by omega
          subst hkk2
          go_wp2
          go_loopw [15] (fun i wr => ∃ k q : Nat, k ≤ 20 ∧ i = .int .i64 k ∧ Hid (wr = w6.drewN q)) (fun i _ => 20 - (intOf i).toNat)
          case atStart => exact ⟨0, q2, Nat.zero_le _, rfl, rfl⟩
          case round =>
            obtain ⟨k3, q3, hk3, rfl, hw3⟩ := hrel
            have hw3' : wr = _ := hw3.out
            subst hw3'
            clear hw3
            by_cases hlt3 : k3 < 20
            · have f1 := cU k3 (by omega)
              have f2 := cS k3 (by omega)
              clear cR1 cR2 cO cT cU cS
              go_wp2
              go_quiet (fail)
              go_wp2
              go_roundw
              case rel => exact ⟨k3 + 1, _, by omega, by go_num, by first | exact rfl | exact drewn2 _ _ _ _ | exact drewn1 _ _ _⟩
              case measure => simp [intOf]; omega
            · have hkk3 : k3 = 20 := by omega
              subst hkk3
              go_wp2
              go_ret
              exact ⟨rfl, Below.drewN bel _⟩

set_option maxHeartbeats 1600000 in
theorem keep_row_f (a : Option Addr) (len cap : Nat) (Z S : List Int) (hZ : Z.length = len) (hS : S.length = 20) (hl : len ≤ 1048576) (w : World) (hcl : Clones w (.slice a len cap) len Z) :
    Calls Try.prog 3 #[.slice a len cap, .bool false, .agg (arr S)] w fun e w' => e = .returned (.bool true) ∧ Below w.heap.size w w' := by
  have iS : (Try.prog.info? 23).map (·.size) = some (arr S).size := by rw [arr_size, hS]; exact Try.info23
  have st0 := Sv.start w S
  have hdec : decide (len ≤ 1048576) = true := decide_eq_true hl
  go_enter Try.func3, Try.ntmps3
  go_wp2_with (refine wpList_load_row rfl 23 (.tmp 5) rfl w.heap.size rfl 23 (arr S) (0, 0) _ st0.bx Try.underlying23 rfl iS ?_)
  refine (zb_any a len cap false S (by omega) _).mono ?_
  rintro e w1 ⟨rfl, hw1⟩
  have st1 : Sv w S w1 := by rw [hw1]; exact st0.alloc _
  clear hw1 st0
  go_wp2_with fail
  refine (hcl w1 st1.bel).mono ?_
  rintro e w2 ⟨rfl, ho2, hg2⟩
  have st2 := st1.grown hg2 (fun k hk => by cases hk)
  have z1 := st1.sz
  have z2 := (ho2.lt w1.heap.size rfl).2
  clear hcl hdec hg2 st1
  go_wp2_with fail
  refine (clone_row w1.heap.size 0 len len Z hZ hl w2 (fun i hi => by simpa using (cells_own ho2).2 i hi)).mono ?_
  rintro e w3 ⟨rfl, ho3, hg3⟩
  have st3 := st2.grown hg3 (fun k hk => by cases hk)
  have z3 := (ho3.lt w2.heap.size rfl).2
  have hr2 := ho2.kept hg3 (.inr (by simp [Value.ownBlock]))
  clear hg3 ho2 st2
  go_wp2_with fail
  refine (zab_end w1.heap.size len (.slice (some ⟨w1.heap.size, 0, none⟩) len len) (cel Z) w3 hr2 (by omega) (by have := st3.bel.size; omega)).mono ?_
  rintro e w5 ⟨g5, c5, rfl, ho5, hg5, hat5⟩
  have st5 := st3.grown hg5 (fun k hk => by simp [Value.ownBlock] at hk; omega)
  have oo5 := ho3.kept hg5 (.inr (by simp [Value.ownBlock]; omega))
  clear hg5 hat5 ho3 hr2 st3
  go_wp2_with fail
  refine (zab_end w.heap.size 0 (.slice none 0 0) [] w5 (World.ownsRow_nil _ _ _ _) (by omega) st5.bel.size).mono ?_
  rintro e w6 ⟨g6, c6, rfl, ho6, hg6, hat6⟩
  have st6 := st5.grown hg6 (fun k hk => by simp [Value.ownBlock] at hk)
  have or6 := ho5.kept hg6 (.inr (by simp [Value.ownBlock]))
  have oo6 := oo5.kept hg6 (.inr (by simp [Value.ownBlock]))
  simp only [Nat.zero_add, List.nil_append] at ho6
  obtain ⟨lT, cT⟩ := cells_own (A := enc false S) ho6
  obtain ⟨lR, cR⟩ := cells_own (A := Z ++ enc false S) (by rw [cel_append]; exact or6)
  have cR1 : ∀ k, k < len → w6.cell? ⟨g5, k, none⟩ = some (.int .u8 (byt Z k)) := fun k hk => by rw [cR k (by omega), byt_left _ _ _ (by omega)]
  have cR2 : ∀ k, k < 1 → w6.cell? ⟨g5, len + k, none⟩ = some (.int .u8 (byt (enc false S) k)) := fun k hk => by rw [cR _ (by omega), ← hZ, byt_right]
  have cO := (cells_own oo6).2
  have bel := st6.bel
  clear hg6 hat6 ho6 or6 st5 st6 ho5 lT lR iS oo5 oo6 cR
  go_wp2_with fail
  go_loopw [13] (fun i wr => ∃ k q : Nat, k ≤ len ∧ i = .int .i64 k ∧ Hid (wr = w6.drewN q)) (fun i _ => len - (intOf i).toNat)
  case atStart => exact ⟨0, 0, Nat.zero_le _, rfl, rfl⟩
  case round =>
    obtain ⟨k1, q1, hk1, rfl, hw1⟩ := hrel
    have hw1' : wr = _ := hw1.out
    subst hw1'
    clear hw1
    by_cases hlt1 : k1 < len
    · have f1 := cR1 k1 (by omega)
      have f2 := cO k1 (by omega)
      clear cR1 cR2 cO cT
      go_wp2
      go_quiet (fail)
      go_wp2
      go_roundw
      case rel => exact ⟨k1 + 1, _, by omega, by go_num, by first | exact rfl | exact drewn2 _ _ _ _ | exact drewn1 _ _ _⟩
      case measure => simp [intOf]; omega
    · have hkk1 : k1 = len := by omega
      subst hkk1
      go_wp2
      go_loopw [14] (fun i wr => ∃ k q : Nat, k ≤ 1 ∧ i = .int .i64 k ∧ Hid (wr = w6.drewN q)) (fun i _ => 1 - (intOf i).toNat)
      case atStart => exact ⟨0, q1, Nat.zero_le _, rfl, rfl⟩
      case round =>
        obtain ⟨k2, q2, hk2, rfl, hw2⟩ := hrel
        have hw2' : wr = _ := hw2.out
        subst hw2'
        clear hw2
        by_cases hlt2 : k2 < 1
        · have f1 := cR2 k2 (by omega)
          have f2 := cT k2 (by omega)
          clear cR1 cR2 cO cT
          go_wp2
          go_quiet (fail)
          go_wp2
          go_roundw
          case rel => exact ⟨k2 + 1, _, by omega, by go_num, by first | exact rfl | exact drewn2 _ _ _ _ | exact drewn1 _ _ _⟩
          case measure => simp [intOf]; omega
        · have hkk2 : k2 = 1 := by omega
          subst hkk2
          go_wp2
          go_ret
          exact ⟨rfl, Below.drewN bel _⟩

set_option maxHeartbeats 1600000 in
theorem keep_nil_t (S : List Int) (hS : S.length = 20) (w : World) :
    Calls Try.prog 3 #[.slice none 0 0, .bool true, .agg (arr S)] w fun e w' => e = .returned (.bool true) ∧ Below w.heap.size w w' := by
  have iS : (Try.prog.info? 23).map (·.size) = some (arr S).size := by rw [arr_size, hS]; exact Try.info23
  have jS : (Try.prog.info? 27).map (·.size) = some (cel S).length := by rw [cel_length, hS]; exact Try.info27
  have st0 := Sv.start w S
  go_enter Try.func3, Try.ntmps3
  go_wp2_with (refine wpList_load_row rfl 23 (.tmp 5) rfl w.heap.size rfl 23 (arr S) (0, 0) _ st0.bx Try.underlying23 rfl iS ?_)
  refine (zb_any none 0 0 true S (by omega) _).mono ?_
  rintro e w1 ⟨rfl, hw1⟩
  have st3 : Sv w S w1 := by rw [hw1]; exact st0.alloc _
  clear hw1 st0
  go_wp2_with fail
  refine (clone_nil w1).mono ?_
  rintro e w2 ⟨rfl, hw2⟩
  rw [hw2]
  clear hw2 w2
  go_wp2_with fail
  refine (clone_nil w1).mono ?_
  rintro e w3 ⟨rfl, hw3⟩
  have st3 : Sv w S w3 := by rw [hw3]; exact st3
  clear hw3
  go_wp2_with (first
    | (refine wpList_load_row rfl 23 (.tmp 5) rfl w.heap.size rfl 23 (arr S) (0, 0) _ st3.bx Try.underlying23 rfl iS ?_)
    | (refine wpList_store_new rfl 27 (.tmp 9) (.tmp 29) rfl w3.heap.size rfl _ 27 (cel S) rfl rfl (by rw [cel_length, hS]; decide) jS (cel_one S) ?_; intro w4 hr4 hg4 hs4; have st4 := (st3.alloc _).grown hg4 (fun k hk => by have := st3.sz; simp at hk; omega); clear hg4))
  refine (zab_ser w.heap.size 0 (.slice none 0 0) [] w4 (World.ownsRow_nil _ _ _ _) (by omega) (by have := st4.bel.size; omega) w3.heap.size (cel S) (by rw [cel_length]; exact hS) (fun j u hu => by simpa using hr4 j u hu) (cel_one S) (by simp [Value.ownBlock])).mono ?_
  rintro e w5 ⟨g5, c5, rfl, ho5, hg5, hat5⟩
  have st5 := st4.grown hg5 (fun k hk => by simp [Value.ownBlock] at hk)
  have hr6 := rangeAt_grown hr4 hg5 (by simp [Value.ownBlock])
  simp only [Nat.zero_add, List.nil_append] at ho5
  clear hg5 hat5 st3 st4 hr4
  go_wp2_with fail
  refine (zab_ser w.heap.size 0 (.slice none 0 0) [] w5 (World.ownsRow_nil _ _ _ _) (by omega) st5.bel.size w3.heap.size (cel S) (by rw [cel_length]; exact hS) (fun j u hu => by simpa using hr6 j u hu) (cel_one S) (by simp [Value.ownBlock])).mono ?_
  rintro e w6 ⟨g6, c6, rfl, ho6, hg6, hat6⟩
  have st6 := st5.grown hg6 (fun k hk => by simp [Value.ownBlock] at hk)
  have or6 := ho5.kept hg6 (.inr (by simp [Value.ownBlock]))
  simp only [Nat.zero_add, List.nil_append] at ho6
  obtain ⟨lT, cT⟩ := cells_own (A := enc true S) ho6
  obtain ⟨lR, cR⟩ := cells_own (A := enc true S) or6
  have cU : ∀ k, k < 20 → w6.cell? ⟨g6, 1 + k, none⟩ = some (.int .u8 (byt S k)) := fun k hk => by rw [cT _ (by omega)]; exact congrArg (fun x => some (Value.int .u8 x)) (byt_cons 1 S k)
  have cS : ∀ k, k < 20 → w6.cell? ⟨w.heap.size, k, none⟩ = some (.int .u8 (byt S k)) := fun k hk => by rw [cell_of_row _ _ _ _ _ _ st6.bx]; exact arr_get S k (by omega)
  have bel := st6.bel
  clear hg6 hat6 ho6 or6 st5 st6 ho5 lT lR iS hr6 jS
  go_wp2_with fail
  refine wp_loop_rounds 1 ?_
  rw [rounds_succ]
  go_wp2
  go_loopw [14] (fun i wr => ∃ k q : Nat, k ≤ 21 ∧ i = .int .i64 k ∧ Hid (wr = w6.drewN q)) (fun i _ => 21 - (intOf i).toNat)
  case atStart => exact ⟨0, 0, Nat.zero_le _, rfl, rfl⟩
  case round =>
    obtain ⟨k2, q2, hk2, rfl, hw2⟩ := hrel
    have hw2' : wr = _ := hw2.out
    subst hw2'
    clear hw2
    by_cases hlt2 : k2 < 21
    · have f1 := cR k2 (by omega)
      have f2 := cT k2 (by omega)
      clear cR cT cU cS
      go_wp2
      go_quiet (fail)
      go_wp2
      go_roundw
      case rel => exact ⟨k2 + 1, _, by omega, by go_num, by first | exact rfl | exact drewn2 _ _ _ _ | exact drewn1 _ _ _⟩
      case measure => simp [intOf]; omega
    · have hkk2 : k2 = 21 := by omega
      subst hkk2
      go_wp2
      go_loopw [15] (fun i wr => ∃ k q : Nat, k ≤ 20 ∧ i = .int .i64 k ∧ Hid (wr = w6.drewN q)) (fun i _ => 20 - (intOf i).toNat)
      case atStart => exact ⟨0, q2, Nat.zero_le _, rfl, rfl⟩
      case round =>
        obtain ⟨k3, q3, hk3, rfl, hw3⟩ := hrel
        have hw3' : wr = _ := hw3.out
        subst hw3'
        clear hw3
        by_cases hlt3 : k3 < 20
        · have f1 := cU k3 (by omega)
          have f2 := cS k3 (by omega)
          clear cR cT cU cS
          go_wp2
          go_quiet (fail)
          go_wp2
          go_roundw
          case rel => exact ⟨k3 + 1, _, by omega, by go_num, by first | exact rfl | exact drewn2 _ _ _ _ | exact drewn1 _ _ _⟩
          case measure => simp [intOf]; omega
        · have hkk3 : k3 = 20 := by omega
          subst hkk3
          go_wp2
          go_ret
          exact ⟨rfl, Below.drewN bel _⟩

set_option maxHeartbeats 1600000 in
theorem keep_nil_f (S : List Int) (hS : S.length = 20) (w : World) :
    Calls Try.prog 3 #[.slice none 0 0, .bool false, .agg (arr S)] w fun e w' => e = .returned (.bool true) ∧ Below w.heap.size w w' := by
  have iS : (Try.prog.info? 23).map (·.size) = some (arr S).size := by rw [arr_size, hS]; exact Try.info23
  have st0 := Sv.start w S
  go_enter Try.func3, Try.ntmps3
  go_wp2_with (refine wpList_load_row rfl 23 (.tmp 5) rfl w.heap.size rfl 23 (arr S) (0, 0) _ st0.bx Try.underlying23 rfl iS ?_)
  refine (zb_any none 0 0 false S (by omega) _).mono ?_
  rintro e w1 ⟨rfl, hw1⟩
  have st3 : Sv w S w1 := by rw [hw1]; exact st0.alloc _
  clear hw1 st0
  go_wp2_with fail
  refine (clone_nil w1).mono ?_
  rintro e w2 ⟨rfl, hw2⟩
  rw [hw2]
  clear hw2 w2
  go_wp2_with fail
  refine (clone_nil w1).mono ?_
  rintro e w3 ⟨rfl, hw3⟩
  have st3 : Sv w S w3 := by rw [hw3]; exact st3
  clear hw3
  go_wp2_with fail
  refine (zab_end w.heap.size 0 (.slice none 0 0) [] w3 (World.ownsRow_nil _ _ _ _) (by omega) (by have := st3.bel.size; omega)).mono ?_
  rintro e w5 ⟨g5, c5, rfl, ho5, hg5, hat5⟩
  have st5 := st3.grown hg5 (fun k hk => by simp [Value.ownBlock] at hk)
  simp only [Nat.zero_add, List.nil_append] at ho5
  clear hg5 hat5 st3
  go_wp2_with fail
  refine (zab_end w.heap.size 0 (.slice none 0 0) [] w5 (World.ownsRow_nil _ _ _ _) (by omega) st5.bel.size).mono ?_
  rintro e w6 ⟨g6, c6, rfl, ho6, hg6, hat6⟩
  have st6 := st5.grown hg6 (fun k hk => by simp [Value.ownBlock] at hk)
  have or6 := ho5.kept hg6 (.inr (by simp [Value.ownBlock]))
  simp only [Nat.zero_add, List.nil_append] at ho6
  obtain ⟨lT, cT⟩ := cells_own (A := enc false S) ho6
  obtain ⟨lR, cR⟩ := cells_own (A := enc false S) or6
  have bel := st6.bel
  clear hg6 hat6 ho6 or6 st5 st6 ho5 lT lR iS
  go_wp2_with fail
  refine wp_loop_rounds 1 ?_
  rw [rounds_succ]
  go_wp2
  go_loopw [14] (fun i wr => ∃ k q : Nat, k ≤ 1 ∧ i = .int .i64 k ∧ Hid (wr = w6.drewN q)) (fun i _ => 1 - (intOf i).toNat)
  case atStart => exact ⟨0, 0, Nat.zero_le _, rfl, rfl⟩
  case round =>
    obtain ⟨k2, q2, hk2, rfl, hw2⟩ := hrel
    have hw2' : wr = _ := hw2.out
    subst hw2'
    clear hw2
    by_cases hlt2 : k2 < 1
    · have f1 := cR k2 (by omega)
      have f2 := cT k2 (by omega)
      clear cR cT
      go_wp2
      go_quiet (fail)
      go_wp2
      go_roundw
      case rel => exact ⟨k2 + 1, _, by omega, by go_num, by first | exact rfl | exact drewn2 _ _ _ _ | exact drewn1 _ _ _⟩
      case measure => simp [intOf]; omega
    · have hkk2 : k2 = 1 := by omega
      subst hkk2
      go_wp2
      go_ret
      exact ⟨rfl, Below.drewN bel _⟩

set_option maxHeartbeats 400000 in
theorem keep_long (a : Option Addr) (len cap : Nat) (hs : Bool) (S : List Int) (hS : S.length = 20) (hl : 1048576 < len) (hm : len ≤ 9223372036854775807) (w : World) :
    Calls Try.prog 3 #[.slice a len cap, .bool hs, .agg (arr S)] w fun e w' => e = .returned (.bool true) ∧ Below w.heap.size w w' := by
  have iS : (Try.prog.info? 23).map (·.size) = some (arr S).size := by rw [arr_size, hS]; exact Try.info23
  have st0 := Sv.start w S
  have hdec : decide (len ≤ 1048576) = false := decide_eq_false (by omega)
  go_enter Try.func3, Try.ntmps3
  go_wp2_with (refine wpList_load_row rfl 23 (.tmp 5) rfl w.heap.size rfl 23 (arr S) (0, 0) _ st0.bx Try.underlying23 rfl iS ?_)
  refine (zb_any a len cap hs S hm _).mono ?_
  rintro e w1 ⟨rfl, hw1⟩
  have st1 : Sv w S w1 := by rw [hw1]; exact st0.alloc _
  clear hw1 st0
  go_wp2
  go_ret
  exact ⟨rfl, st1.bel⟩

theorem keep_any (a : Option Addr) (len cap : Nat) (hs : Bool) (Z S : List Int) (hZ : Z.length = len) (hS : S.length = 20) (hm : len ≤ 9223372036854775807) (w : World)
    (ha : (a = none ∧ len = 0 ∧ cap = 0) ∨ ∃ x, a = some x ∧ ∀ i, i < len → w.cell? (x.add i) = some (.int .u8 (byt Z i))) :
    Calls Try.prog 3 #[.slice a len cap, .bool hs, .agg (arr S)] w fun e w' => e = .returned (.bool true) ∧ Below w.heap.size w w' := by
  rcases ha with ⟨rfl, rfl, rfl⟩ | ⟨x, rfl, hc⟩
  · cases hs
    · exact keep_nil_f S hS w
    · exact keep_nil_t S hS w
  · by_cases hl : len ≤ 1048576
    · have hcl : Clones w (.slice (some x) len cap) len Z := by
        intro W hb
        by_cases h0 : len = 0
        · subst h0
          have e : Z = [] := List.eq_nil_of_length_eq_zero hZ
          subst e
          exact clone_empty x cap W
        · obtain ⟨b, off, spot⟩ := x
          have hspot : spot = none := by simpa [Addr.add] using World.cell?_spot (hc 0 (by omega))
          subst hspot
          refine clone_row b off len cap Z hZ hl W (fun i hi => ?_)
          have c := hc i hi
          rw [Addr.add_mid] at c
          exact (hb.cell (World.block_lt_of_cell? w _ c)).trans c
      cases hs
      · exact keep_row_f (some x) len cap Z S hZ hS hl w hcl
      · exact keep_row_t (some x) len cap Z S hZ hS hl w hcl
    · exact keep_long (some x) len cap hs S hS (by omega) hm w
end Go.Proofs.Qxb6619394a
