/-
  SMALL LAWS OUTSIDE THE WALKS: a whole array stored into a variable that the call has just made.
-/
import Derived.Test.Qxb6619394aOrd
import Derived.Test.Qxb6619394aBound
import Derived.Deep.MidRow
namespace Go.Proofs.Qxb6619394a
open Go.RowKit

theorem grown_setCells (b : Nat) : ∀ (vs : List Value) (o : Nat) (w : World), w.grownBy (w.setCells b o vs) (some b)
  | [], _, w => World.grownBy.refl w _
  | v :: vs, o, w => by
    have h1 : w.grownBy (w.setCell ⟨b, o, none⟩ v) (some b) := ⟨rfl, rfl, rfl, by simp, fun k _ hk => heap_setCell_other w ⟨b, o, none⟩ k v (fun e => hk (by simp [e]))⟩
    exact h1.trans (grown_setCells b vs (o + 1) (w.setCell ⟨b, o, none⟩ v))
theorem size_setCells (b : Nat) : ∀ (vs : List Value) (o : Nat) (w : World), (w.setCells b o vs).heap.size = w.heap.size
  | [], _, w => rfl
  | v :: vs, o, w => by
    have := size_setCells b vs (o + 1) (w.setCell ⟨b, o, none⟩ v)
    simp only [World.setCells] at this ⊢
    rw [this]; simp
theorem there_new (W : World) (N : Nat) (hN : W.heap.size = N) (zs : Array Value) (t : TypeId) (n : Nat) (h : n ≤ zs.size) : (W.alloc (.cells zs t)).there N 0 n := by
  subst hN
  intro j hj
  have hb := heap_alloc_new W (.cells zs t)
  constructor
  · rw [cell_of_row _ _ _ _ _ _ hb]
    simp; omega
  · exact frozen_of_row _ _ _ _ _ hb

/-- A whole array goes into a new variable: what lies there; what else has turned. -/
theorem wpList_store_new {P : Program} {ops : Array Oper} {rest : List Oper} {op : Oper} {a : Act} {W : World} {Q : Exit → Act → World → Prop} (hgd : op.guard = none) (ty : TypeId) (x y : Operand) (ho : op.op = .store ty x y)
    (N : Nat) (hN : W.heap.size = N) (zs : Array Value) (t : TypeId) (cs : List Value) (hx : a.eval x = .pointer (some ⟨N, 0, none⟩)) (hy : a.eval y = .agg cs.toArray)
    (hz : cs.length ≤ zs.size) (hi : (P.info? ty).map (·.size) = some cs.length) (h1 : ∀ v ∈ cs, v.oneCell' = true)
    (h : ∀ w', w'.rangeAt N 0 cs → (W.alloc (.cells zs t)).grownBy w' (some N) → w'.heap.size = N + 1 → wpList P ops Q rest (a.put op.dst undef) w') : wpList P ops Q (op :: rest) a (W.alloc (.cells zs t)) := by
  have ht := there_new W N hN zs t cs.length hz
  refine wpList_store_mid hgd ty x y ho N 0 cs.toArray hx hy (by simpa using ht) (by simpa using hi) (all_oneCell_toArray h1) ?_
  refine h _ (by simpa using World.rangeAt_setCells_same _ N 0 cs ht) (grown_setCells N _ 0 _) ?_
  rw [size_setCells]; simp [hN]

theorem rangeAt_grown {w w1 : World} {row : Option Nat} {b o : Nat} {cs : List Value} (h : w.rangeAt b o cs) (hg : w.grownBy w1 row) (hne : some b ≠ row) : w1.rangeAt b o cs :=
  fun j v hv => hg.cell (h j v hv) hne

theorem rangeAt_below {w w1 : World} {b o : Nat} {cs : List Value} (hb : Below w.heap.size w w1) (h : w.rangeAt b o cs) : w1.rangeAt b o cs :=
  fun j v hv => (hb.cell (World.block_lt_of_cell? w _ (h j v hv))).trans (h j v hv)

theorem Try.info27 : (Try.prog.info? 27).map (·.size) = some 20 := by kernel_rfl
theorem Try.info23 : (Try.prog.info? 23).map (·.size) = some 20 := by kernel_rfl

/-- bytes as a list of cells -/
def cel (X : List Int) : List Value := X.map (Value.int .u8)
theorem cel_length (X : List Int) : (cel X).length = X.length := by simp [cel]
theorem cel_one (X : List Int) : ∀ v ∈ cel X, v.oneCell' = true := by
  intro v hv
  obtain ⟨x, _, rfl⟩ := List.mem_map.1 hv
  rfl
theorem cel_get (X : List Int) (k : Nat) (h : k < X.length) : (cel X)[k]? = some (.int .u8 (byt X k)) := by
  simp [cel, byt, List.getElem?_map, List.getElem?_eq_getElem h]
theorem cel_cons (x : Int) (X : List Int) : cel (x :: X) = .int .u8 x :: cel X := rfl
/-- A block that holds the bytes, as a range. -/
theorem range_arr {w : World} {b : Nat} {X : List Int} {t : TypeId} (h : w.heap[b]? = some (.cells (arr X) t)) : w.rangeAt b 0 (cel X) := fun j v hv => by
  rw [cell_of_row w b _ _ _ _ h]
  simpa [arr, cel] using hv
/-- What an owned row of bytes holds, cell by cell. -/
theorem cells_own {w : World} {base g n cap : Nat} {A : List Int} (h : w.ownsRow base 5 1 (.slice (some ⟨g, 0, none⟩) n cap) n (cel A)) : A.length = n ∧ ∀ k, k < n → w.cell? ⟨g, k, none⟩ = some (.int .u8 (byt A k)) := by
  have hl : A.length = n := by have := h.1; rw [cel_length] at this; omega
  refine ⟨hl, fun k hk => ?_⟩
  rw [h.cellAt k (by omega), cel_get A k (by omega)]
/-- compareBytes, its world said as a frame. -/
theorem cb_below (A B : List Int) (ga gb la lb ca cb : Nat) (hA : A.length = la) (hB : B.length = lb) (ba : la ≤ 3000000) (bb : lb ≤ 3000000) (w : World)
    (cA : ∀ k, k < la → w.cell? ⟨ga, k, none⟩ = some (.int .u8 (byt A k))) (cB : ∀ k, k < lb → w.cell? ⟨gb, k, none⟩ = some (.int .u8 (byt B k))) :
    Calls Try.prog 8 #[.slice (some ⟨ga, 0, none⟩) la ca, .slice (some ⟨gb, 0, none⟩) lb cb] w fun e w' => e = .returned (.int .i64 (cmpL A B)) ∧ Below w.heap.size w w' := by
  refine (cb_any A B ga gb la lb ca cb hA hB ba bb w cA cB).mono ?_
  rintro e w' ⟨rfl, q, rfl⟩
  exact ⟨rfl, Below.drewN (Below.refl _ w) q⟩

/-- the encoding of a bound -/
def enc : Bool → List Int → List Int
  | true, X => 1 :: X
  | false, _ => [0]
theorem cmp_enc (hx hy : Bool) (X Y : List Int) : cmpL (enc hx X) (enc hy Y) = bnd hx X hy Y := by
  cases hx <;> cases hy <;> simp [enc, bnd, cmpL]
end Go.Proofs.Qxb6619394a
