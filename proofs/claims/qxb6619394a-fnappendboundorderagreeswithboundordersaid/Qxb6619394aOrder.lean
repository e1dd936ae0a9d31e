/-
  THE WALK OF FnAppendBoundOrderAgreesWithBoundOrder.
-/
import Derived.Test.Qxb6619394aParts
import Derived.Deep.RegionHeld3
namespace Go.Proofs.Qxb6619394a
open Go.RowKit
set_option linter.unusedSimpArgs false

/-- 'wpAnyH_take', the slot that is written said by the caller. -/
theorem take_to {P : Program} {md : Region.Mode} {ops : Array Oper} {Q : Exit → Act → World → Prop} {S : World → Prop} (i : Nat) {oi : Oper} {fuel : Nat} {listed : Array Bool} {a : Act} {w : World} (hi : ops[i]? = some oi) (d : Option Tmp) (hd : oi.dst = d)
    (hs : Region.noSelect ops = true) (hf : Region.free md ops listed i = true) (hr : (Region.ready md ops listed).contains i = true)
    (v : Value) (hQ : ∀ c a w, Q (.panic c) (a.put d v) w → Q (.panic c) a w) (hy : YieldsIf P ops S oi v a) (hS : S w)
    (h : wpAnyH P md ops Q S fuel (listed.setIfInBounds i true) (a.put d v) w) : wpAnyH P md ops Q S (fuel + 1) listed a w := by
  subst hd
  exact wpAnyH_take hi hs hf hr hQ hy hS h

/-- The call's own memory: the two boxed arguments lie there; what was there before stands. -/
structure St (w : World) (X Y : List Int) (w' : World) : Prop where
  bx : w'.heap[w.heap.size]? = some (.cells (arr X) 23)
  bY : w'.heap[w.heap.size + 1]? = some (.cells (arr Y) 23)
  bel : Below w.heap.size w w'
  sz : w.heap.size + 2 ≤ w'.heap.size
theorem St.start (w : World) (X Y : List Int) : St w X Y ((w.alloc (.cells (arr X) 23)).alloc (.cells (arr Y) 23)) :=
  ⟨heap_alloc2_old _ _ _, heap_alloc2_new _ _ _, ((Below.refl _ w).alloc (Nat.le_refl _) _).alloc (by simp) _, by simp⟩
theorem St.grown {w : World} {X Y : List Int} {w1 w2 : World} {row : Option Nat} (h : St w X Y w1) (hg : w1.grownBy w2 row) (hr : ∀ k, row = some k → w.heap.size + 2 ≤ k) : St w X Y w2 := by
  have h3 := h.sz
  have h4 := hg.size
  refine ⟨(hg.block _ (by omega) ?_).trans h.bx, (hg.block _ (by omega) ?_).trans h.bY, h.bel.grown hg (by omega) (fun k hk => by have := hr k hk; omega), by omega⟩
  · intro e; have := hr _ e.symm; omega
  · intro e; have := hr _ e.symm; omega
theorem St.alloc {w : World} {X Y : List Int} {w1 : World} (h : St w X Y w1) (o : Obj) : St w X Y (w1.alloc o) := h.grown (World.grownBy_alloc _ _ none) (fun _ h => by cases h)

set_option maxHeartbeats 400000 in
theorem law_tt (X Y : List Int) (hX : X.length = 20) (hY : Y.length = 20) (w : World) :
    Calls Try.prog 4 #[.bool true, .agg (arr X), .bool true, .agg (arr Y)] w fun e w' => e = .returned (.bool true) ∧ Below w.heap.size w w' := by
  have iX : (Try.prog.info? 23).map (·.size) = some (arr X).size := by rw [arr_size, hX]; exact Try.info23
  have jX : (Try.prog.info? 27).map (·.size) = some (cel X).length := by rw [cel_length, hX]; exact Try.info27
  have iY : (Try.prog.info? 23).map (·.size) = some (arr Y).size := by rw [arr_size, hY]; exact Try.info23
  have jY : (Try.prog.info? 27).map (·.size) = some (cel Y).length := by rw [cel_length, hY]; exact Try.info27
  have st0 := St.start w X Y
  go_enter Try.func4, Try.ntmps4
  go_wp2_with (first
    | (refine wpList_load_row rfl 23 (.tmp 5) rfl w.heap.size rfl 23 (arr X) (0, 0) _ st0.bx Try.underlying23 rfl iX ?_)
    | (refine wpList_store_new rfl 27 (.tmp 11) (.tmp 16) rfl (w.heap.size + 2) (by simp) _ 27 (cel X) rfl rfl (by rw [cel_length, hX]; decide) jX (cel_one X) ?_; intro w1 hr1 hg1 hs1; have st1 := (st0.alloc _).grown hg1 (fun k hk => by simp at hk; omega); clear hg1)
    | (refine wpList_load_row rfl 23 (.tmp 7) rfl (w.heap.size + 1) rfl 23 (arr Y) (0, 0) _ st1.bY Try.underlying23 rfl iY ?_)
    | (refine wpList_store_new rfl 27 (.tmp 12) (.tmp 18) rfl (w.heap.size + 2 + 1) hs1 _ 27 (cel Y) rfl rfl (by rw [cel_length, hY]; decide) jY (cel_one Y) ?_; intro w2 hr2 hg2 hs2; have st2 := (st1.alloc _).grown hg2 (fun k hk => by simp at hk; omega); have hr3 := rangeAt_grown (World.rangeAt_alloc hr1 _) hg2 (by simp); clear hg2 hr1))
  refine (zab_ser w.heap.size 0 (.slice none 0 0) [] w2 (World.ownsRow_nil _ _ _ _) (by omega) st2.bel.size (w.heap.size + 1 + 1) (cel X) (by rw [cel_length]; exact hX) (fun j u hu => by simpa using hr3 j u hu) (cel_one X) (by simp [Value.ownBlock])).mono ?_
  rintro e w3 ⟨g3, c3, rfl, ho3, hg3, hat3⟩
  have st3 := st2.grown hg3 (fun k hk => by simp [Value.ownBlock] at hk)
  have hr4 := rangeAt_grown hr2 hg3 (by simp [Value.ownBlock])
  clear hg3 hat3 hr3 hr2 hs1 hs2
  simp only [Nat.zero_add, List.nil_append] at ho3
  go_wp2_with fail
  refine (zab_ser w.heap.size 0 (.slice none 0 0) [] w3 (World.ownsRow_nil _ _ _ _) (by omega) st3.bel.size (w.heap.size + 1 + 1 + 1) (cel Y) (by rw [cel_length]; exact hY) (fun j u hu => by simpa using hr4 j u hu) (cel_one Y) (by simp [Value.ownBlock])).mono ?_
  rintro e w4 ⟨g4, c4, rfl, ho4, hg4, hat4⟩
  have st4 := st3.grown hg4 (fun k hk => by simp [Value.ownBlock] at hk)
  have ho5 := ho3.kept hg4 (.inr (by simp [Value.ownBlock]))
  clear hg4 hat4 hr4
  simp only [Nat.zero_add, List.nil_append] at ho4
  go_wp2_with fail
  obtain ⟨lA, cA⟩ := cells_own (A := enc true X) ho5
  obtain ⟨lB, cB⟩ := cells_own (A := enc true Y) ho4
  have rX := range_arr st4.bx
  have rY := range_arr st4.bY
  have bel := st4.bel
  have hi : (Try.prog.info? 23).map (·.size) = some (cel X).length := by rw [cel_length, hX]; exact Try.info23
  have hi' : (Try.prog.info? 23).map (·.size) = some (cel Y).length := by rw [cel_length, hY]; exact Try.info23
  have heq := cmp_enc true true X Y
  clear ho3 ho4 ho5 st0 st1 st2 st3 st4 iX jX iY jY
  refine wp_region_held_drew (S := fun w' => w'.rangeAt w.heap.size 0 (cel X) ∧ w'.rangeAt (w.heap.size + 1) 0 (cel Y)) (by kernel_rfl) ⟨by simpa using rX, by simpa using rY⟩ (fun hHeld => ?_)
  refine take_to 0 rfl (some 23) rfl (by kernel_rfl) (by kernel_rfl) (by kernel_rfl) _ (fun _ _ _ h => h) (.inl ⟨by rfl, fun _ _ => by rfl⟩) hHeld ?_
  try simp only [Act.put, List.setIfInBounds_toArray, List.set_cons_zero, List.set_cons_succ]
  refine take_to 1 rfl (some 24) rfl (by kernel_rfl) (by kernel_rfl) (by kernel_rfl) _ (fun _ _ _ h => h) (.inl ⟨by rfl, fun _ _ => by rfl⟩) hHeld ?_
  try simp only [Act.put, List.setIfInBounds_toArray, List.set_cons_zero, List.set_cons_succ]
  refine take_to 3 rfl (some 26) rfl (by kernel_rfl) (by kernel_rfl) (by kernel_rfl) _ (fun _ _ _ h => h) (.inl ⟨by rfl, fun _ _ => by rfl⟩) hHeld ?_
  try simp only [Act.put, List.setIfInBounds_toArray, List.set_cons_zero, List.set_cons_succ]
  refine take_to 5 rfl (some 28) rfl (by kernel_rfl) (by kernel_rfl) (by kernel_rfl) _ (fun _ _ _ h => h) (.inl ⟨by rfl, fun _ _ => by rfl⟩) hHeld ?_
  try simp only [Act.put, List.setIfInBounds_toArray, List.set_cons_zero, List.set_cons_succ]
  refine take_to 4 rfl (some 27) rfl (by kernel_rfl) (by kernel_rfl) (by kernel_rfl) _ (fun _ _ _ h => h) (yieldsIf_load_mid (by rfl) 23 (.tmp 5) rfl w.heap.size 0 rfl (cel X) _ (fun _ h => h.1) Try.underlying23 rfl hi) hHeld ?_
  try simp only [Act.put, List.setIfInBounds_toArray, List.set_cons_zero, List.set_cons_succ]
  refine take_to 6 rfl (some 29) rfl (by kernel_rfl) (by kernel_rfl) (by kernel_rfl) _ (fun _ _ _ h => h) (yieldsIf_load_mid (by rfl) 23 (.tmp 7) rfl (w.heap.size + 1) 0 rfl (cel Y) _ (fun _ h => h.2) Try.underlying23 rfl hi') hHeld ?_
  try simp only [Act.put, List.setIfInBounds_toArray, List.set_cons_zero, List.set_cons_succ]
  refine wpAnyH_ready (rs := [2]) (by kernel_rfl) (by simp) ?_
  refine AllReadyH.cons rfl (fun K hK => ?_) AllReadyH.nil
  go_simp
  refine (cb_below (enc true X) (enc true Y) g3 g4 21 21 c3 c4 lA lB (by omega) (by omega) _ (fun k hk => by simpa using cA k hk) (fun k hk => by simpa using cB k hk)).mono ?_
  rintro e w5 ⟨rfl, hb5⟩
  go_wp2_with fail
  refine hK.out _ _ ⟨rangeAt_below hb5 hHeld.1, rangeAt_below hb5 hHeld.2⟩ (fun hHeld2 => ?_)
  clear hK K
  try simp only [Act.put, List.setIfInBounds_toArray, List.set_cons_zero, List.set_cons_succ]
  refine wpAnyH_ready (rs := [7]) (by kernel_rfl) (by simp) ?_
  refine AllReadyH.cons rfl (fun K hK => ?_) AllReadyH.nil
  go_simp
  refine (bo_any true X true Y hX hY _).mono ?_
  rintro e w6 ⟨rfl, hb6⟩
  go_wp2_with fail
  refine hK.out _ _ ⟨rangeAt_below hb6 hHeld2.1, rangeAt_below hb6 hHeld2.2⟩ (fun hHeld3 => ?_)
  clear hK K
  try simp only [Act.put, List.setIfInBounds_toArray, List.set_cons_zero, List.set_cons_succ]
  refine take_to 8 rfl (some 31) rfl (by kernel_rfl) (by kernel_rfl) (by kernel_rfl) (.bool true) (fun _ _ _ h => h) (.inl ⟨by rfl, fun _ _ => by go_simp⟩) hHeld3 ?_
  try simp only [Act.put, List.setIfInBounds_toArray, List.set_cons_zero, List.set_cons_succ]
  refine take_to 9 rfl (some 8) rfl (by kernel_rfl) (by kernel_rfl) (by kernel_rfl) (.bool true) (fun _ _ _ h => h) (.inl ⟨by rfl, fun _ _ => by go_simp⟩) hHeld3 ?_
  refine wpAnyH_done (by kernel_rfl) ?_ _
  go_wp2
  go_ret
  have z4 := bel.size
  have z5 := hb5.size
  rw [heap_drew] at z5
  exact ⟨rfl, (bel.drew.trans (hb5.mono (by simpa using z4))).trans (hb6.mono (by omega))⟩

set_option maxHeartbeats 400000 in
theorem law_tf (X Y : List Int) (hX : X.length = 20) (hY : Y.length = 20) (w : World) :
    Calls Try.prog 4 #[.bool true, .agg (arr X), .bool false, .agg (arr Y)] w fun e w' => e = .returned (.bool true) ∧ Below w.heap.size w w' := by
  have iX : (Try.prog.info? 23).map (·.size) = some (arr X).size := by rw [arr_size, hX]; exact Try.info23
  have jX : (Try.prog.info? 27).map (·.size) = some (cel X).length := by rw [cel_length, hX]; exact Try.info27
  have st0 := St.start w X Y
  go_enter Try.func4, Try.ntmps4
  go_wp2_with (first
    | (refine wpList_load_row rfl 23 (.tmp 5) rfl w.heap.size rfl 23 (arr X) (0, 0) _ st0.bx Try.underlying23 rfl iX ?_)
    | (refine wpList_store_new rfl 27 (.tmp 11) (.tmp 16) rfl (w.heap.size + 2) (by simp) _ 27 (cel X) rfl rfl (by rw [cel_length, hX]; decide) jX (cel_one X) ?_; intro w1 hr1 hg1 hs1; have st1 := (st0.alloc _).grown hg1 (fun k hk => by simp at hk; omega); clear hg1))
  refine (zab_ser w.heap.size 0 (.slice none 0 0) [] w1 (World.ownsRow_nil _ _ _ _) (by omega) st1.bel.size (w.heap.size + 1 + 1) (cel X) (by rw [cel_length]; exact hX) (fun j u hu => by simpa using hr1 j u hu) (cel_one X) (by simp [Value.ownBlock])).mono ?_
  rintro e w3 ⟨g3, c3, rfl, ho3, hg3, hat3⟩
  have st3 := st1.grown hg3 (fun k hk => by simp [Value.ownBlock] at hk)
  clear hg3 hat3 hr1 hs1
  simp only [Nat.zero_add, List.nil_append] at ho3
  go_wp2_with fail
  refine (zab_end w.heap.size 0 (.slice none 0 0) [] w3 (World.ownsRow_nil _ _ _ _) (by omega) st3.bel.size).mono ?_
  rintro e w4 ⟨g4, c4, rfl, ho4, hg4, hat4⟩
  have st4 := st3.grown hg4 (fun k hk => by simp [Value.ownBlock] at hk)
  have ho5 := ho3.kept hg4 (.inr (by simp [Value.ownBlock]))
  clear hg4 hat4
  simp only [Nat.zero_add, List.nil_append] at ho4
  go_wp2_with fail
  obtain ⟨lA, cA⟩ := cells_own (A := enc true X) ho5
  obtain ⟨lB, cB⟩ := cells_own (A := enc false Y) ho4
  have rX := range_arr st4.bx
  have rY := range_arr st4.bY
  have bel := st4.bel
  have hi : (Try.prog.info? 23).map (·.size) = some (cel X).length := by rw [cel_length, hX]; exact Try.info23
  have hi' : (Try.prog.info? 23).map (·.size) = some (cel Y).length := by rw [cel_length, hY]; exact Try.info23
  have heq := cmp_enc true false X Y
  clear ho3 ho4 ho5 st0 st1 st3 st4 iX jX
  refine wp_region_held_drew (S := fun w' => w'.rangeAt w.heap.size 0 (cel X) ∧ w'.rangeAt (w.heap.size + 1) 0 (cel Y)) (by kernel_rfl) ⟨by simpa using rX, by simpa using rY⟩ (fun hHeld => ?_)
  refine take_to 0 rfl (some 23) rfl (by kernel_rfl) (by kernel_rfl) (by kernel_rfl) _ (fun _ _ _ h => h) (.inl ⟨by rfl, fun _ _ => by rfl⟩) hHeld ?_
  try simp only [Act.put, List.setIfInBounds_toArray, List.set_cons_zero, List.set_cons_succ]
  refine take_to 1 rfl (some 24) rfl (by kernel_rfl) (by kernel_rfl) (by kernel_rfl) _ (fun _ _ _ h => h) (.inl ⟨by rfl, fun _ _ => by rfl⟩) hHeld ?_
  try simp only [Act.put, List.setIfInBounds_toArray, List.set_cons_zero, List.set_cons_succ]
  refine take_to 3 rfl (some 26) rfl (by kernel_rfl) (by kernel_rfl) (by kernel_rfl) _ (fun _ _ _ h => h) (.inl ⟨by rfl, fun _ _ => by rfl⟩) hHeld ?_
  try simp only [Act.put, List.setIfInBounds_toArray, List.set_cons_zero, List.set_cons_succ]
  refine take_to 5 rfl (some 28) rfl (by kernel_rfl) (by kernel_rfl) (by kernel_rfl) _ (fun _ _ _ h => h) (.inl ⟨by rfl, fun _ _ => by rfl⟩) hHeld ?_
  try simp only [Act.put, List.setIfInBounds_toArray, List.set_cons_zero, List.set_cons_succ]
  refine take_to 4 rfl (some 27) rfl (by kernel_rfl) (by kernel_rfl) (by kernel_rfl) _ (fun _ _ _ h => h) (yieldsIf_load_mid (by rfl) 23 (.tmp 5) rfl w.heap.size 0 rfl (cel X) _ (fun _ h => h.1) Try.underlying23 rfl hi) hHeld ?_
  try simp only [Act.put, List.setIfInBounds_toArray, List.set_cons_zero, List.set_cons_succ]
  refine take_to 6 rfl (some 29) rfl (by kernel_rfl) (by kernel_rfl) (by kernel_rfl) _ (fun _ _ _ h => h) (yieldsIf_load_mid (by rfl) 23 (.tmp 7) rfl (w.heap.size + 1) 0 rfl (cel Y) _ (fun _ h => h.2) Try.underlying23 rfl hi') hHeld ?_
  try simp only [Act.put, List.setIfInBounds_toArray, List.set_cons_zero, List.set_cons_succ]
  refine wpAnyH_ready (rs := [2]) (by kernel_rfl) (by simp) ?_
  refine AllReadyH.cons rfl (fun K hK => ?_) AllReadyH.nil
  go_simp
  refine (cb_below (enc true X) (enc false Y) g3 g4 21 1 c3 c4 lA lB (by omega) (by omega) _ (fun k hk => by simpa using cA k hk) (fun k hk => by simpa using cB k hk)).mono ?_
  rintro e w5 ⟨rfl, hb5⟩
  go_wp2_with fail
  refine hK.out _ _ ⟨rangeAt_below hb5 hHeld.1, rangeAt_below hb5 hHeld.2⟩ (fun hHeld2 => ?_)
  clear hK K
  try simp only [Act.put, List.setIfInBounds_toArray, List.set_cons_zero, List.set_cons_succ]
  refine wpAnyH_ready (rs := [7]) (by kernel_rfl) (by simp) ?_
  refine AllReadyH.cons rfl (fun K hK => ?_) AllReadyH.nil
  go_simp
  refine (bo_any true X false Y hX hY _).mono ?_
  rintro e w6 ⟨rfl, hb6⟩
  go_wp2_with fail
  refine hK.out _ _ ⟨rangeAt_below hb6 hHeld2.1, rangeAt_below hb6 hHeld2.2⟩ (fun hHeld3 => ?_)
  clear hK K
  try simp only [Act.put, List.setIfInBounds_toArray, List.set_cons_zero, List.set_cons_succ]
  refine take_to 8 rfl (some 31) rfl (by kernel_rfl) (by kernel_rfl) (by kernel_rfl) (.bool true) (fun _ _ _ h => h) (.inl ⟨by rfl, fun _ _ => by go_simp⟩) hHeld3 ?_
  try simp only [Act.put, List.setIfInBounds_toArray, List.set_cons_zero, List.set_cons_succ]
  refine take_to 9 rfl (some 8) rfl (by kernel_rfl) (by kernel_rfl) (by kernel_rfl) (.bool true) (fun _ _ _ h => h) (.inl ⟨by rfl, fun _ _ => by go_simp⟩) hHeld3 ?_
  refine wpAnyH_done (by kernel_rfl) ?_ _
  go_wp2
  go_ret
  have z4 := bel.size
  have z5 := hb5.size
  rw [heap_drew] at z5
  exact ⟨rfl, (bel.drew.trans (hb5.mono (by simpa using z4))).trans (hb6.mono (by omega))⟩

set_option maxHeartbeats 400000 in
theorem law_ft (X Y : List Int) (hX : X.length = 20) (hY : Y.length = 20) (w : World) :
    Calls Try.prog 4 #[.bool false, .agg (arr X), .bool true, .agg (arr Y)] w fun e w' => e = .returned (.bool true) ∧ Below w.heap.size w w' := by
  have iY : (Try.prog.info? 23).map (·.size) = some (arr Y).size := by rw [arr_size, hY]; exact Try.info23
  have jY : (Try.prog.info? 27).map (·.size) = some (cel Y).length := by rw [cel_length, hY]; exact Try.info27
  have st0 := St.start w X Y
  go_enter Try.func4, Try.ntmps4
  go_wp2_with (first
    | (refine wpList_load_row rfl 23 (.tmp 7) rfl (w.heap.size + 1) rfl 23 (arr Y) (0, 0) _ st0.bY Try.underlying23 rfl iY ?_)
    | (refine wpList_store_new rfl 27 (.tmp 12) (.tmp 18) rfl (w.heap.size + 2) (by simp) _ 27 (cel Y) rfl rfl (by rw [cel_length, hY]; decide) jY (cel_one Y) ?_; intro w2 hr2 hg2 hs2; have st2 := (st0.alloc _).grown hg2 (fun k hk => by simp at hk; omega); clear hg2))
  refine (zab_end w.heap.size 0 (.slice none 0 0) [] w2 (World.ownsRow_nil _ _ _ _) (by omega) st2.bel.size).mono ?_
  rintro e w3 ⟨g3, c3, rfl, ho3, hg3, hat3⟩
  have st3 := st2.grown hg3 (fun k hk => by simp [Value.ownBlock] at hk)
  have hr4 := rangeAt_grown hr2 hg3 (by simp [Value.ownBlock])
  clear hg3 hat3 hr2 hs2
  simp only [Nat.zero_add, List.nil_append] at ho3
  go_wp2_with fail
  refine (zab_ser w.heap.size 0 (.slice none 0 0) [] w3 (World.ownsRow_nil _ _ _ _) (by omega) st3.bel.size (w.heap.size + 1 + 1) (cel Y) (by rw [cel_length]; exact hY) (fun j u hu => by simpa using hr4 j u hu) (cel_one Y) (by simp [Value.ownBlock])).mono ?_
  rintro e w4 ⟨g4, c4, rfl, ho4, hg4, hat4⟩
  have st4 := st3.grown hg4 (fun k hk => by simp [Value.ownBlock] at hk)
  have ho5 := ho3.kept hg4 (.inr (by simp [Value.ownBlock]))
  clear hg4 hat4 hr4
  simp only [Nat.zero_add, List.nil_append] at ho4
  go_wp2_with fail
  obtain ⟨lA, cA⟩ := cells_own (A := enc false X) ho5
  obtain ⟨lB, cB⟩ := cells_own (A := enc true Y) ho4
  have rX := range_arr st4.bx
  have rY := range_arr st4.bY
  have bel := st4.bel
  have hi : (Try.prog.info? 23).map (·.size) = some (cel X).length := by rw [cel_length, hX]; exact Try.info23
  have hi' : (Try.prog.info? 23).map (·.size) = some (cel Y).length := by rw [cel_length, hY]; exact Try.info23
  have heq := cmp_enc false true X Y
  clear ho3 ho4 ho5 st0 st2 st3 st4 iY jY
  refine wp_region_held_drew (S := fun w' => w'.rangeAt w.heap.size 0 (cel X) ∧ w'.rangeAt (w.heap.size + 1) 0 (cel Y)) (by kernel_rfl) ⟨by simpa using rX, by simpa using rY⟩ (fun hHeld => ?_)
  refine take_to 0 rfl (some 23) rfl (by kernel_rfl) (by kernel_rfl) (by kernel_rfl) _ (fun _ _ _ h => h) (.inl ⟨by rfl, fun _ _ => by rfl⟩) hHeld ?_
  try simp only [Act.put, List.setIfInBounds_toArray, List.set_cons_zero, List.set_cons_succ]
  refine take_to 1 rfl (some 24) rfl (by kernel_rfl) (by kernel_rfl) (by kernel_rfl) _ (fun _ _ _ h => h) (.inl ⟨by rfl, fun _ _ => by rfl⟩) hHeld ?_
  try simp only [Act.put, List.setIfInBounds_toArray, List.set_cons_zero, List.set_cons_succ]
  refine take_to 3 rfl (some 26) rfl (by kernel_rfl) (by kernel_rfl) (by kernel_rfl) _ (fun _ _ _ h => h) (.inl ⟨by rfl, fun _ _ => by rfl⟩) hHeld ?_
  try simp only [Act.put, List.setIfInBounds_toArray, List.set_cons_zero, List.set_cons_succ]
  refine take_to 5 rfl (some 28) rfl (by kernel_rfl) (by kernel_rfl) (by kernel_rfl) _ (fun _ _ _ h => h) (.inl ⟨by rfl, fun _ _ => by rfl⟩) hHeld ?_
  try simp only [Act.put, List.setIfInBounds_toArray, List.set_cons_zero, List.set_cons_succ]
  refine take_to 4 rfl (some 27) rfl (by kernel_rfl) (by kernel_rfl) (by kernel_rfl) _ (fun _ _ _ h => h) (yieldsIf_load_mid (by rfl) 23 (.tmp 5) rfl w.heap.size 0 rfl (cel X) _ (fun _ h => h.1) Try.underlying23 rfl hi) hHeld ?_
  try simp only [Act.put, List.setIfInBounds_toArray, List.set_cons_zero, List.set_cons_succ]
  refine take_to 6 rfl (some 29) rfl (by kernel_rfl) (by kernel_rfl) (by kernel_rfl) _ (fun _ _ _ h => h) (yieldsIf_load_mid (by rfl) 23 (.tmp 7) rfl (w.heap.size + 1) 0 rfl (cel Y) _ (fun _ h => h.2) Try.underlying23 rfl hi') hHeld ?_
  try simp only [Act.put, List.setIfInBounds_toArray, List.set_cons_zero, List.set_cons_succ]
  refine wpAnyH_ready (rs := [2]) (by kernel_rfl) (by simp) ?_
  refine AllReadyH.cons rfl (fun K hK => ?_) AllReadyH.nil
  go_simp
  refine (cb_below (enc false X) (enc true Y) g3 g4 1 21 c3 c4 lA lB (by omega) (by omega) _ (fun k hk => by simpa using cA k hk) (fun k hk => by simpa using cB k hk)).mono ?_
  rintro e w5 ⟨rfl, hb5⟩
  go_wp2_with fail
  refine hK.out _ _ ⟨rangeAt_below hb5 hHeld.1, rangeAt_below hb5 hHeld.2⟩ (fun hHeld2 => ?_)
  clear hK K
  try simp only [Act.put, List.setIfInBounds_toArray, List.set_cons_zero, List.set_cons_succ]
  refine wpAnyH_ready (rs := [7]) (by kernel_rfl) (by simp) ?_
  refine AllReadyH.cons rfl (fun K hK => ?_) AllReadyH.nil
  go_simp
  refine (bo_any false X true Y hX hY _).mono ?_
  rintro e w6 ⟨rfl, hb6⟩
  go_wp2_with fail
  refine hK.out _ _ ⟨rangeAt_below hb6 hHeld2.1, rangeAt_below hb6 hHeld2.2⟩ (fun hHeld3 => ?_)
  clear hK K
  try simp only [Act.put, List.setIfInBounds_toArray, List.set_cons_zero, List.set_cons_succ]
  refine take_to 8 rfl (some 31) rfl (by kernel_rfl) (by kernel_rfl) (by kernel_rfl) (.bool true) (fun _ _ _ h => h) (.inl ⟨by rfl, fun _ _ => by go_simp⟩) hHeld3 ?_
  try simp only [Act.put, List.setIfInBounds_toArray, List.set_cons_zero, List.set_cons_succ]
  refine take_to 9 rfl (some 8) rfl (by kernel_rfl) (by kernel_rfl) (by kernel_rfl) (.bool true) (fun _ _ _ h => h) (.inl ⟨by rfl, fun _ _ => by go_simp⟩) hHeld3 ?_
  refine wpAnyH_done (by kernel_rfl) ?_ _
  go_wp2
  go_ret
  have z4 := bel.size
  have z5 := hb5.size
  rw [heap_drew] at z5
  exact ⟨rfl, (bel.drew.trans (hb5.mono (by simpa using z4))).trans (hb6.mono (by omega))⟩

set_option maxHeartbeats 400000 in
theorem law_ff (X Y : List Int) (hX : X.length = 20) (hY : Y.length = 20) (w : World) :
    Calls Try.prog 4 #[.bool false, .agg (arr X), .bool false, .agg (arr Y)] w fun e w' => e = .returned (.bool true) ∧ Below w.heap.size w w' := by
  have st0 := St.start w X Y
  go_enter Try.func4, Try.ntmps4
  go_wp2_with fail
  refine (zab_end w.heap.size 0 (.slice none 0 0) [] ((w.alloc (.cells (arr X) 23)).alloc (.cells (arr Y) 23)) (World.ownsRow_nil _ _ _ _) (by omega) st0.bel.size).mono ?_
  rintro e w3 ⟨g3, c3, rfl, ho3, hg3, hat3⟩
  have st3 := st0.grown hg3 (fun k hk => by simp [Value.ownBlock] at hk)
  clear hg3 hat3
  simp only [Nat.zero_add, List.nil_append] at ho3
  go_wp2_with fail
  refine (zab_end w.heap.size 0 (.slice none 0 0) [] w3 (World.ownsRow_nil _ _ _ _) (by omega) st3.bel.size).mono ?_
  rintro e w4 ⟨g4, c4, rfl, ho4, hg4, hat4⟩
  have st4 := st3.grown hg4 (fun k hk => by simp [Value.ownBlock] at hk)
  have ho5 := ho3.kept hg4 (.inr (by simp [Value.ownBlock]))
  clear hg4 hat4
  simp only [Nat.zero_add, List.nil_append] at ho4
  go_wp2_with fail
  obtain ⟨lA, cA⟩ := cells_own (A := enc false X) ho5
  obtain ⟨lB, cB⟩ := cells_own (A := enc false Y) ho4
  have rX := range_arr st4.bx
  have rY := range_arr st4.bY
  have bel := st4.bel
  have hi : (Try.prog.info? 23).map (·.size) = some (cel X).length := by rw [cel_length, hX]; exact Try.info23
  have hi' : (Try.prog.info? 23).map (·.size) = some (cel Y).length := by rw [cel_length, hY]; exact Try.info23
  have heq := cmp_enc false false X Y
  clear ho3 ho4 ho5 st0 st3 st4
  refine wp_region_held_drew (S := fun w' => w'.rangeAt w.heap.size 0 (cel X) ∧ w'.rangeAt (w.heap.size + 1) 0 (cel Y)) (by kernel_rfl) ⟨by simpa using rX, by simpa using rY⟩ (fun hHeld => ?_)
  refine take_to 0 rfl (some 23) rfl (by kernel_rfl) (by kernel_rfl) (by kernel_rfl) _ (fun _ _ _ h => h) (.inl ⟨by rfl, fun _ _ => by rfl⟩) hHeld ?_
  try simp only [Act.put, List.setIfInBounds_toArray, List.set_cons_zero, List.set_cons_succ]
  refine take_to 1 rfl (some 24) rfl (by kernel_rfl) (by kernel_rfl) (by kernel_rfl) _ (fun _ _ _ h => h) (.inl ⟨by rfl, fun _ _ => by rfl⟩) hHeld ?_
  try simp only [Act.put, List.setIfInBounds_toArray, List.set_cons_zero, List.set_cons_succ]
  refine take_to 3 rfl (some 26) rfl (by kernel_rfl) (by kernel_rfl) (by kernel_rfl) _ (fun _ _ _ h => h) (.inl ⟨by rfl, fun _ _ => by rfl⟩) hHeld ?_
  try simp only [Act.put, List.setIfInBounds_toArray, List.set_cons_zero, List.set_cons_succ]
  refine take_to 5 rfl (some 28) rfl (by kernel_rfl) (by kernel_rfl) (by kernel_rfl) _ (fun _ _ _ h => h) (.inl ⟨by rfl, fun _ _ => by rfl⟩) hHeld ?_
  try simp only [Act.put, List.setIfInBounds_toArray, List.set_cons_zero, List.set_cons_succ]
  refine take_to 4 rfl (some 27) rfl (by kernel_rfl) (by kernel_rfl) (by kernel_rfl) _ (fun _ _ _ h => h) (yieldsIf_load_mid (by rfl) 23 (.tmp 5) rfl w.heap.size 0 rfl (cel X) _ (fun _ h => h.1) Try.underlying23 rfl hi) hHeld ?_
  try simp only [Act.put, List.setIfInBounds_toArray, List.set_cons_zero, List.set_cons_succ]
  refine take_to 6 rfl (some 29) rfl (by kernel_rfl) (by kernel_rfl) (by kernel_rfl) _ (fun _ _ _ h => h) (yieldsIf_load_mid (by rfl) 23 (.tmp 7) rfl (w.heap.size + 1) 0 rfl (cel Y) _ (fun _ h => h.2) Try.underlying23 rfl hi') hHeld ?_
  try simp only [Act.put, List.setIfInBounds_toArray, List.set_cons_zero, List.set_cons_succ]
  refine wpAnyH_ready (rs := [2]) (by kernel_rfl) (by simp) ?_
  refine AllReadyH.cons rfl (fun K hK => ?_) AllReadyH.nil
  go_simp
  refine (cb_below (enc false X) (enc false Y) g3 g4 1 1 c3 c4 lA lB (by omega) (by omega) _ (fun k hk => by simpa using cA k hk) (fun k hk => by simpa using cB k hk)).mono ?_
  rintro e w5 ⟨rfl, hb5⟩
  go_wp2_with fail
  refine hK.out _ _ ⟨rangeAt_below hb5 hHeld.1, rangeAt_below hb5 hHeld.2⟩ (fun hHeld2 => ?_)
  clear hK K
  try simp only [Act.put, List.setIfInBounds_toArray, List.set_cons_zero, List.set_cons_succ]
  refine wpAnyH_ready (rs := [7]) (by kernel_rfl) (by simp) ?_
  refine AllReadyH.cons rfl (fun K hK => ?_) AllReadyH.nil
  go_simp
  refine (bo_any false X false Y hX hY _).mono ?_
  rintro e w6 ⟨rfl, hb6⟩
  go_wp2_with fail
  refine hK.out _ _ ⟨rangeAt_below hb6 hHeld2.1, rangeAt_below hb6 hHeld2.2⟩ (fun hHeld3 => ?_)
  clear hK K
  try simp only [Act.put, List.setIfInBounds_toArray, List.set_cons_zero, List.set_cons_succ]
  refine take_to 8 rfl (some 31) rfl (by kernel_rfl) (by kernel_rfl) (by kernel_rfl) (.bool true) (fun _ _ _ h => h) (.inl ⟨by rfl, fun _ _ => by go_simp⟩) hHeld3 ?_
  try simp only [Act.put, List.setIfInBounds_toArray, List.set_cons_zero, List.set_cons_succ]
  refine take_to 9 rfl (some 8) rfl (by kernel_rfl) (by kernel_rfl) (by kernel_rfl) (.bool true) (fun _ _ _ h => h) (.inl ⟨by rfl, fun _ _ => by go_simp⟩) hHeld3 ?_
  refine wpAnyH_done (by kernel_rfl) ?_ _
  go_wp2
  go_ret
  have z4 := bel.size
  have z5 := hb5.size
  rw [heap_drew] at z5
  exact ⟨rfl, (bel.drew.trans (hb5.mono (by simpa using z4))).trans (hb6.mono (by omega))⟩

theorem law_order (hx hy : Bool) (X Y : List Int) (hX : X.length = 20) (hY : Y.length = 20) (w : World) :
    Calls Try.prog 4 #[.bool hx, .agg (arr X), .bool hy, .agg (arr Y)] w fun e w' => e = .returned (.bool true) ∧ Below w.heap.size w w' := by
  cases hx <;> cases hy
  · exact law_ff X Y hX hY w
  · exact law_ft X Y hX hY w
  · exact law_tf X Y hX hY w
  · exact law_tt X Y hX hY w
end Go.Proofs.Qxb6619394a
