/-
  AN ARRAY OF TWENTY BYTES THAT COMES IN BY VALUE, OPENED.
-/
import Derived.Test.Qxb6619394aOrd
import Derived.ProofKit
import Derived.OpenShut
import Derived.ChangeOld
namespace Go.Proofs.Qxb6619394a
open Go.ChangeShapes Go.WideShapes Go.ChangeAt Go.RowKit

theorem Try.cells23 : Try.prog.cellsOf 23 = 20 := by kernel_rfl
theorem Try.cells5 : Try.prog.cellsOf 5 = 1 := by kernel_rfl

theorem open_arr20 {H : Type} {enc : TypeId × Value → H} {W : World} {base base' : Nat} {sp : Nat → Bool} {held : Bool} {v : Value} {d : DataW H} {p : List MemPlace}
    (hv : Value.okWide Try.prog W .any base 23 v) (h : DataW.Trod enc Try.prog W base' sp held 23 v d p) : ∃ X : List Int, v = .agg (arr X) ∧ X.length = 20 := by
  obtain ⟨cs, rfl, hsz, _⟩ : ∃ cs, v = .agg cs ∧ cs.size = Try.prog.cellsOf 23 ∧ Row.okWide Try.prog W .any base 23 cs := by
    simpa [Value.okWide, Try.underlying23] using hv
  rw [Try.cells23] at hsz
  obtain ⟨fuel, hf⟩ := h
  obtain ⟨xs, m, _, _, hlen, hl, hel⟩ := DataW.trod_array Try.underlying23 hf
  have hc : ∀ i, i < 20 → ∃ a : Int, cs[i]? = some (.int .u8 a) := by
    intro i hi
    have := hel i hi
    rw [List.getElem?_eq_getElem (by omega), Try.cells5] at this
    obtain ⟨a, ea, _⟩ := DataW.trod_int Try.underlying5 this
    refine ⟨a, ?_⟩
    have e2 := congrArg (fun l => l[0]?) ea
    simpa [Value.cells] using e2
  refine ⟨cs.toList.map intOf, ?_, by simpa using hsz⟩
  congr 1
  apply Array.ext_getElem?
  intro i
  by_cases hi : i < 20
  · obtain ⟨a, ha⟩ := hc i hi
    simp [arr, ha, intOf]
  · rw [Array.getElem?_eq_none (by omega), Array.getElem?_eq_none (by simp [arr]; omega)]
end Go.Proofs.Qxb6619394a
