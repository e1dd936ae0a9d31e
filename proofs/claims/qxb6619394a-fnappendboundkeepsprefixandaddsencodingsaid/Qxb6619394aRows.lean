/-
  No cell of these rows narrows 'for every input' (looked for: loops, veiled, ifaces, maps, wideKeys, modest, calm, conditions, laid).
  DERIVED. THE GIVEN ROWS OF THIS SEAT. 2 by the template 'for every input the law returns true; each argument reads behind the call as it read before'; 0 by the template 'total and deterministic' (their statements: Qxb6619394aTotals.lean).
  GIVEN WITH THE SEED: the statements are not yours to turn. If you find one false, say at which input.
  Laid BY PROGRAM, IN A SANDBOX (cutbox-rows.mjs): the forced cells as the released guide's own fill.sh prints them over the translation 4c222776e377d20c… (all of the seat's roots in one cut). By AI agents, Wed Nov 11 2026. No macro, syntax, notation, axiom, sorry.
-/
import Derived.Test.Qxb6619394aChecked
import GoSem.Claim
import GoSem.ClaimJoined
import GoSem.ClaimMapViews
import Derived.JoinedTies
import Derived.KernelRfl
namespace Go.Proofs.Qxb6619394a
/- THE CELL 'sum', in the pinned program and in every row, IS THE sha256 OF THE DUMP (.gsa) THAT Qxb6619394aProg.lean LOADS. Nothing in Lean hashes anything: it is a label: what it is worth is what the hold of that sum in a sandbox is worth. -/
noncomputable def Try.pinned : Pinned := { name := "qxb6619394a", sum := "4c222776e377d20c867ca7d06a268c7193b3cfc308acaba7bdddc40764257439", checked := Try.checked }
namespace Rows
def none {H : Type} : Left H := { results := [], args := [] }

/-- 'zzlaws_root_b1.FnAppendBoundKeepsPrefixAndAddsEncoding': WHATEVER THE INPUT: true; the input reads as it did. -/
def fnAppendBoundKeepsPrefixAndAddsEncodingSpec : ChangeSpec := { name := "fnAppendBoundKeepsPrefixAndAddsEncoding", fn := fun _ => fun
  | [d1, d2, d3] => { results := [.lit (.bool true)], args := [d1, d2, d3] }
  | _ => none }
def fnAppendBoundKeepsPrefixAndAddsEncodingRow : OpenClaim := { program := "qxb6619394a", sum := "4c222776e377d20c867ca7d06a268c7193b3cfc308acaba7bdddc40764257439", func := "example.com/proofleaf/proofleaf/zzlaws_root_b1.FnAppendBoundKeepsPrefixAndAddsEncoding", spec := "fnAppendBoundKeepsPrefixAndAddsEncoding", apart := false }
def FnAppendBoundKeepsPrefixAndAddsEncodingSaid : Prop := fnAppendBoundKeepsPrefixAndAddsEncodingRow.holds Try.pinned (OpenSpec.ofChange fnAppendBoundKeepsPrefixAndAddsEncodingSpec)

/-- ITS FALSE NEIGHBOUR: 'it returns false'. Refute it at one input. -/
def fnAppendBoundKeepsPrefixAndAddsEncodingWrong : ChangeSpec := { name := "fnAppendBoundKeepsPrefixAndAddsEncoding", fn := fun _ => fun
  | [d1, d2, d3] => { results := [.lit (.bool false)], args := [d1, d2, d3] }
  | _ => none }
def FnAppendBoundKeepsPrefixAndAddsEncodingWrongFalsely : Prop := fnAppendBoundKeepsPrefixAndAddsEncodingRow.holds Try.pinned (OpenSpec.ofChange fnAppendBoundKeepsPrefixAndAddsEncodingWrong)

/-- 'zzlaws_root_b1.FnAppendBoundOrderAgreesWithBoundOrder': WHATEVER THE INPUT: true; the input reads as it did. -/
def fnAppendBoundOrderAgreesWithBoundOrderSpec : ChangeSpec := { name := "fnAppendBoundOrderAgreesWithBoundOrder", fn := fun _ => fun
  | [d1, d2, d3, d4] => { results := [.lit (.bool true)], args := [d1, d2, d3, d4] }
  | _ => none }
def fnAppendBoundOrderAgreesWithBoundOrderRow : OpenClaim := { program := "qxb6619394a", sum := "4c222776e377d20c867ca7d06a268c7193b3cfc308acaba7bdddc40764257439", func := "example.com/proofleaf/proofleaf/zzlaws_root_b1.FnAppendBoundOrderAgreesWithBoundOrder", spec := "fnAppendBoundOrderAgreesWithBoundOrder", apart := false }
def FnAppendBoundOrderAgreesWithBoundOrderSaid : Prop := fnAppendBoundOrderAgreesWithBoundOrderRow.holds Try.pinned (OpenSpec.ofChange fnAppendBoundOrderAgreesWithBoundOrderSpec)

/-- ITS FALSE NEIGHBOUR: 'it returns false'. Refute it at one input. -/
def fnAppendBoundOrderAgreesWithBoundOrderWrong : ChangeSpec := { name := "fnAppendBoundOrderAgreesWithBoundOrder", fn := fun _ => fun
  | [d1, d2, d3, d4] => { results := [.lit (.bool false)], args := [d1, d2, d3, d4] }
  | _ => none }
def FnAppendBoundOrderAgreesWithBoundOrderWrongFalsely : Prop := fnAppendBoundOrderAgreesWithBoundOrderRow.holds Try.pinned (OpenSpec.ofChange fnAppendBoundOrderAgreesWithBoundOrderWrong)

end Rows
end Go.Proofs.Qxb6619394a
