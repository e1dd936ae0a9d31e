/-
  No cell of these rows narrows 'for every input' (looked for: loops, veiled, ifaces, maps, wideKeys, modest, calm, conditions, laid).
  DERIVED. THE GIVEN ROWS OF THIS SEAT. 6 by the template 'for every input the law returns true; each argument reads behind the call as it read before'; 0 by the template 'total and deterministic' (their statements: Qxb6619407aTotals.lean).
  GIVEN WITH THE SEED: the statements are not yours to turn. If you find one false, say at which input.
  Laid BY PROGRAM, IN A SANDBOX (cutbox-rows.mjs): the forced cells as the released guide's own fill.sh prints them over the translation 3d3a7c7c50193d3c… (all of the seat's roots in one cut). By AI agents, Wed Nov 11 2026. No macro, syntax, notation, axiom, sorry.
-/
import Derived.Test.Qxb6619407aChecked
import GoSem.Claim
import GoSem.ClaimJoined
import GoSem.ClaimMapViews
import Derived.JoinedTies
import Derived.KernelRfl
namespace Go.Proofs.Qxb6619407a
/- THE CELL 'sum', in the pinned program and in every row, IS THE sha256 OF THE DUMP (.gsa) THAT Qxb6619407aProg.lean LOADS. Nothing in Lean hashes anything: it is a label: what it is worth is what the hold of that sum in a sandbox is worth. -/
noncomputable def Try.pinned : Pinned := { name := "qxb6619407a", sum := "3d3a7c7c50193d3cc8cd0b9675983c6e2a38ef1b2944473e404a190e3dc02b90", checked := Try.checked }
namespace Rows
def none {H : Type} : Left H := { results := [], args := [] }

/-- 'zzlaws_internal_day_b1.FnDigitsIsPlaceValueSum': WHATEVER THE INPUT: true; the input reads as it did. -/
def fnDigitsIsPlaceValueSumSpec : ChangeSpec := { name := "fnDigitsIsPlaceValueSum", fn := fun _ => fun
  | [d1, d2, d3] => { results := [.lit (.bool true)], args := [d1, d2, d3] }
  | _ => none }
def fnDigitsIsPlaceValueSumRow : OpenClaim := { program := "qxb6619407a", sum := "3d3a7c7c50193d3cc8cd0b9675983c6e2a38ef1b2944473e404a190e3dc02b90", func := "example.com/guanlian/guanlian/zzlaws_internal_day_b1.FnDigitsIsPlaceValueSum", spec := "fnDigitsIsPlaceValueSum", apart := false }
def FnDigitsIsPlaceValueSumSaid : Prop := fnDigitsIsPlaceValueSumRow.holds Try.pinned (OpenSpec.ofChange fnDigitsIsPlaceValueSumSpec)

/-- ITS FALSE NEIGHBOUR: 'it returns false'. Refute it at one input. -/
def fnDigitsIsPlaceValueSumWrong : ChangeSpec := { name := "fnDigitsIsPlaceValueSum", fn := fun _ => fun
  | [d1, d2, d3] => { results := [.lit (.bool false)], args := [d1, d2, d3] }
  | _ => none }
def FnDigitsIsPlaceValueSumWrongFalsely : Prop := fnDigitsIsPlaceValueSumRow.holds Try.pinned (OpenSpec.ofChange fnDigitsIsPlaceValueSumWrong)

/-- 'zzlaws_internal_day_b1.FnDigitsJoinsAtAnyCut': WHATEVER THE INPUT: true; the input reads as it did. -/
def fnDigitsJoinsAtAnyCutSpec : ChangeSpec := { name := "fnDigitsJoinsAtAnyCut", fn := fun _ => fun
  | [d1, d2, d3, d4] => { results := [.lit (.bool true)], args := [d1, d2, d3, d4] }
  | _ => none }
def fnDigitsJoinsAtAnyCutRow : OpenClaim := { program := "qxb6619407a", sum := "3d3a7c7c50193d3cc8cd0b9675983c6e2a38ef1b2944473e404a190e3dc02b90", func := "example.com/guanlian/guanlian/zzlaws_internal_day_b1.FnDigitsJoinsAtAnyCut", spec := "fnDigitsJoinsAtAnyCut", apart := false }
def FnDigitsJoinsAtAnyCutSaid : Prop := fnDigitsJoinsAtAnyCutRow.holds Try.pinned (OpenSpec.ofChange fnDigitsJoinsAtAnyCutSpec)

/-- ITS FALSE NEIGHBOUR: 'it returns false'. Refute it at one input. -/
def fnDigitsJoinsAtAnyCutWrong : ChangeSpec := { name := "fnDigitsJoinsAtAnyCut", fn := fun _ => fun
  | [d1, d2, d3, d4] => { results := [.lit (.bool false)], args := [d1, d2, d3, d4] }
  | _ => none }
def FnDigitsJoinsAtAnyCutWrongFalsely : Prop := fnDigitsJoinsAtAnyCutRow.holds Try.pinned (OpenSpec.ofChange fnDigitsJoinsAtAnyCutWrong)

/-- 'zzlaws_internal_day_b1.FnFromDateCountsDaysFromEpoch': WHATEVER THE INPUT: true; the input reads as it did. -/
def fnFromDateCountsDaysFromEpochSpec : ChangeSpec := { name := "fnFromDateCountsDaysFromEpoch", fn := fun _ => fun
  | [d1, d2, d3] => { results := [.lit (.bool true)], args := [d1, d2, d3] }
  | _ => none }
def fnFromDateCountsDaysFromEpochRow : OpenClaim := { program := "qxb6619407a", sum := "3d3a7c7c50193d3cc8cd0b9675983c6e2a38ef1b2944473e404a190e3dc02b90", func := "example.com/guanlian/guanlian/zzlaws_internal_day_b1.FnFromDateCountsDaysFromEpoch", spec := "fnFromDateCountsDaysFromEpoch", apart := false }
def FnFromDateCountsDaysFromEpochSaid : Prop := fnFromDateCountsDaysFromEpochRow.holds Try.pinned (OpenSpec.ofChange fnFromDateCountsDaysFromEpochSpec)

/-- ITS FALSE NEIGHBOUR: 'it returns false'. Refute it at one input. -/
def fnFromDateCountsDaysFromEpochWrong : ChangeSpec := { name := "fnFromDateCountsDaysFromEpoch", fn := fun _ => fun
  | [d1, d2, d3] => { results := [.lit (.bool false)], args := [d1, d2, d3] }
  | _ => none }
def FnFromDateCountsDaysFromEpochWrongFalsely : Prop := fnFromDateCountsDaysFromEpochRow.holds Try.pinned (OpenSpec.ofChange fnFromDateCountsDaysFromEpochWrong)

/-- 'zzlaws_internal_day_b1.FnDateUndoesFromDate': WHATEVER THE INPUT: true; the input reads as it did. -/
def fnDateUndoesFromDateSpec : ChangeSpec := { name := "fnDateUndoesFromDate", fn := fun _ => fun
  | [d1, d2, d3] => { results := [.lit (.bool true)], args := [d1, d2, d3] }
  | _ => none }
def fnDateUndoesFromDateRow : OpenClaim := { program := "qxb6619407a", sum := "3d3a7c7c50193d3cc8cd0b9675983c6e2a38ef1b2944473e404a190e3dc02b90", func := "example.com/guanlian/guanlian/zzlaws_internal_day_b1.FnDateUndoesFromDate", spec := "fnDateUndoesFromDate", apart := false }
def FnDateUndoesFromDateSaid : Prop := fnDateUndoesFromDateRow.holds Try.pinned (OpenSpec.ofChange fnDateUndoesFromDateSpec)

/-- ITS FALSE NEIGHBOUR: 'it returns false'. Refute it at one input. -/
def fnDateUndoesFromDateWrong : ChangeSpec := { name := "fnDateUndoesFromDate", fn := fun _ => fun
  | [d1, d2, d3] => { results := [.lit (.bool false)], args := [d1, d2, d3] }
  | _ => none }
def FnDateUndoesFromDateWrongFalsely : Prop := fnDateUndoesFromDateRow.holds Try.pinned (OpenSpec.ofChange fnDateUndoesFromDateWrong)

/-- 'zzlaws_internal_day_b1.FnDateIsLastMonthStartNotAfter': WHATEVER THE INPUT: true; the input reads as it did. -/
def fnDateIsLastMonthStartNotAfterSpec : ChangeSpec := { name := "fnDateIsLastMonthStartNotAfter", fn := fun _ => fun
  | [d] => { results := [.lit (.bool true)], args := [d] }
  | _ => none }
def fnDateIsLastMonthStartNotAfterRow : OpenClaim := { program := "qxb6619407a", sum := "3d3a7c7c50193d3cc8cd0b9675983c6e2a38ef1b2944473e404a190e3dc02b90", func := "example.com/guanlian/guanlian/zzlaws_internal_day_b1.FnDateIsLastMonthStartNotAfter", spec := "fnDateIsLastMonthStartNotAfter", apart := false }
def FnDateIsLastMonthStartNotAfterSaid : Prop := fnDateIsLastMonthStartNotAfterRow.holds Try.pinned (OpenSpec.ofChange fnDateIsLastMonthStartNotAfterSpec)

/-- ITS FALSE NEIGHBOUR: 'it returns false'. Refute it at one input. -/
def fnDateIsLastMonthStartNotAfterWrong : ChangeSpec := { name := "fnDateIsLastMonthStartNotAfter", fn := fun _ => fun
  | [d] => { results := [.lit (.bool false)], args := [d] }
  | _ => none }
def FnDateIsLastMonthStartNotAfterWrongFalsely : Prop := fnDateIsLastMonthStartNotAfterRow.holds Try.pinned (OpenSpec.ofChange fnDateIsLastMonthStartNotAfterWrong)

/-- 'zzlaws_internal_day_b1.FnFromDateUndoesDate': WHATEVER THE INPUT: true; the input reads as it did. -/
def fnFromDateUndoesDateSpec : ChangeSpec := { name := "fnFromDateUndoesDate", fn := fun _ => fun
  | [d] => { results := [.lit (.bool true)], args := [d] }
  | _ => none }
def fnFromDateUndoesDateRow : OpenClaim := { program := "qxb6619407a", sum := "3d3a7c7c50193d3cc8cd0b9675983c6e2a38ef1b2944473e404a190e3dc02b90", func := "example.com/guanlian/guanlian/zzlaws_internal_day_b1.FnFromDateUndoesDate", spec := "fnFromDateUndoesDate", apart := false }
def FnFromDateUndoesDateSaid : Prop := fnFromDateUndoesDateRow.holds Try.pinned (OpenSpec.ofChange fnFromDateUndoesDateSpec)

/-- ITS FALSE NEIGHBOUR: 'it returns false'. Refute it at one input. -/
def fnFromDateUndoesDateWrong : ChangeSpec := { name := "fnFromDateUndoesDate", fn := fun _ => fun
  | [d] => { results := [.lit (.bool false)], args := [d] }
  | _ => none }
def FnFromDateUndoesDateWrongFalsely : Prop := fnFromDateUndoesDateRow.holds Try.pinned (OpenSpec.ofChange fnFromDateUndoesDateWrong)

end Rows
end Go.Proofs.Qxb6619407a
