/-
  THE CONTRACTS OF appendBound AND ZZAppendBound: what is appended to a slice that the call itself owns (or to nil).
-/
import Derived.Test.Qxb6619394aRows
import Derived.WalkKit
import Derived.WalkSpells
import Derived.WalkLawsBesides
import Derived.Deep.AppendLies
namespace Go.Proofs.Qxb6619394a
open Go.RowKit

theorem Try.info5 : (Try.prog.info? 5).map (fun i => (i.zero, i.size, i.bytes)) = some (some (.int .u8 0), 1, 1) := by kernel_rfl

/-- What the two ends of appendBound say: the value behind, what it owns, what else has turned. -/
def Appended (base n m : Nat) (v : Value) (xs news : List Value) (w : World) (e : Ending) (w' : World) : Prop :=
  ∃ g cap, e = .returned (.slice (some ⟨g, 0, none⟩) (n + m) cap) ∧ w'.ownsRow base 5 1 (.slice (some ⟨g, 0, none⟩) (n + m) cap) (n + m) (xs ++ news) ∧ w.grownBy w' v.ownBlock ∧ (v.ownBlock = some g ∨ w.heap.size ≤ g)

set_option maxHeartbeats 400000 in
theorem ab_end (base n : Nat) (v : Value) (xs : List Value) (w : World) (hown : w.ownsRow base 5 1 v n xs) (hn : n ≤ 2000000) (hb : base ≤ w.heap.size) :
    Calls Try.prog 10 #[v, .pointer none] w (Appended base n 1 v xs [.int .u8 0] w) := by
  obtain ⟨i0, hi, hz0, hz1, hz2⟩ := info_parts Try.info5
  go_enter Try.func10, Try.ntmps10
  go_wp2_with (at_builtin; refine wpList_append_lies _ rfl (.tmp 7) (.tmp 8) 22 rfl base 5 i0 (.int .u8 0) 1 1 Try.underlying22 hi hz0 hz1 hz2 rfl (by decide) v n xs rfl (hown.alloc _) ⟨w.heap.size, 0, none⟩ 1 1 [.int .u8 0] rfl rfl (cell_one_new _ _ _) (by intro u hu; simp at hu; subst hu; rfl) (by omega) (by unfold maxLen; omega) (by omega) (by simp; omega) (w.heap.size + 1) (by simp) ?_; intro g cap w1 hown1 hgrow hat hlt)
  go_ret
  exact ⟨g, cap, rfl, hown1, (World.grownBy_alloc _ _ _).trans hgrow, hat.imp_right fun h => by omega⟩

theorem news_far {w w1 : World} {o : Obj} {pb : Nat} {cs : List Value} {row : Option Nat} (hc : ∀ j u, cs[j]? = some u → w.cell? ⟨pb, j, none⟩ = some u) (hne : some pb ≠ row) (hg : (w.alloc o).grownBy w1 row) :
    ∀ j u, cs[j]? = some u → w1.cell? ((⟨pb, 0, none⟩ : Addr).add j) = some u := by
  intro j u hu
  have hadd : (⟨pb, 0, none⟩ : Addr).add j = ⟨pb, j, none⟩ := by unfold Addr.add; split <;> simp_all
  rw [hadd]
  exact ((World.grownBy_alloc w o row).trans hg).cell (hc j u hu) hne

set_option maxHeartbeats 400000 in
theorem ab_ser (base n : Nat) (v : Value) (xs : List Value) (w : World) (hown : w.ownsRow base 5 1 v n xs) (hn : n ≤ 2000000) (hb : base ≤ w.heap.size)
    (pb : Nat) (cs : List Value) (hl : cs.length = 20) (hc : ∀ j u, cs[j]? = some u → w.cell? ⟨pb, j, none⟩ = some u) (h1 : ∀ u ∈ cs, u.oneCell' = true) (hne : some pb ≠ v.ownBlock) :
    Calls Try.prog 10 #[v, .pointer (some ⟨pb, 0, none⟩)] w (Appended base n 21 v xs (.int .u8 1 :: cs) w) := by
  obtain ⟨i0, hi, hz0, hz1, hz2⟩ := info_parts Try.info5
  go_enter Try.func10, Try.ntmps10
  go_wp2_with (first
    | (at_builtin; refine wpList_append_lies _ rfl (.tmp 10) (.tmp 11) 22 rfl base 5 i0 (.int .u8 0) 1 1 Try.underlying22 hi hz0 hz1 hz2 rfl (by decide) v n xs rfl (hown.alloc _) ⟨w.heap.size, 0, none⟩ 1 1 [.int .u8 1] rfl rfl (cell_one_new _ _ _) (by intro u hu; simp at hu; subst hu; rfl) (by omega) (by unfold maxLen; omega) (by omega) (by simp; omega) (w.heap.size + 1) (by simp) ?_; intro g cap w1 hown1 hgrow hat hlt)
    | (at_builtin; refine wpList_append_lies _ rfl (.tmp 13) (.tmp 16) 22 rfl base 5 i0 (.int .u8 0) 1 1 Try.underlying22 hi hz0 hz1 hz2 rfl (by decide) (.slice (some ⟨g, 0, none⟩) (n + 1) cap) (n + 1) _ rfl hown1 ⟨pb, 0, none⟩ 20 20 cs rfl (by omega) (news_far hc hne hgrow) h1 (by omega) (by unfold maxLen; omega) (by omega) (by have := hgrow.size; simp at this; omega) _ rfl ?_; intro g2 cap2 w2 hown2 hgrow2 hat2 hlt2))
  go_ret
  have hz := hgrow.size
  simp at hz
  refine ⟨g2, cap2, rfl, ?_, ((World.grownBy_alloc _ _ _).trans hgrow).andThen hgrow2 ?_, ?_⟩
  · simpa using hown2
  · intro j hj
    simp [Value.ownBlock] at hj
    subst hj
    rcases hat with h | h
    · exact .inr h
    · exact .inl (by omega)
  · rcases hat2 with h | h
    · simp [Value.ownBlock] at h
      subst h
      exact hat.imp_right fun h => by omega
    · right; omega

set_option maxHeartbeats 400000 in
theorem zab_end (base n : Nat) (v : Value) (xs : List Value) (w : World) (hown : w.ownsRow base 5 1 v n xs) (hn : n ≤ 2000000) (hb : base ≤ w.heap.size) :
    Calls Try.prog 7 #[v, .pointer none] w (Appended base n 1 v xs [.int .u8 0] w) := by
  go_enter Try.func7, Try.ntmps7
  go_wp2_with (go_at_call 10; refine (ab_end base n v xs w hown hn hb).mono ?_; rintro e w' ⟨g, cap, rfl, h1, h2, h3⟩)
  go_ret
  exact ⟨g, cap, rfl, h1, h2, h3⟩
set_option maxHeartbeats 400000 in
theorem zab_ser (base n : Nat) (v : Value) (xs : List Value) (w : World) (hown : w.ownsRow base 5 1 v n xs) (hn : n ≤ 2000000) (hb : base ≤ w.heap.size)
    (pb : Nat) (cs : List Value) (hl : cs.length = 20) (hc : ∀ j u, cs[j]? = some u → w.cell? ⟨pb, j, none⟩ = some u) (h1 : ∀ u ∈ cs, u.oneCell' = true) (hne : some pb ≠ v.ownBlock) :
    Calls Try.prog 7 #[v, .pointer (some ⟨pb, 0, none⟩)] w (Appended base n 21 v xs (.int .u8 1 :: cs) w) := by
  go_enter Try.func7, Try.ntmps7
  go_wp2_with (go_at_call 10; refine (ab_ser base n v xs w hown hn hb pb cs hl hc h1 hne).mono ?_; rintro e w' ⟨g, cap, rfl, h1, h2, h3⟩)
  go_ret
  exact ⟨g, cap, rfl, h1, h2, h3⟩
end Go.Proofs.Qxb6619394a
