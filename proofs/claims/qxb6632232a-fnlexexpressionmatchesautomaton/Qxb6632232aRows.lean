/-
  No cell of these rows narrows 'for every input' (looked for: loops, veiled, ifaces, maps, wideKeys, modest, calm, conditions, laid).
  DERIVED. THE GIVEN ROWS OF THIS SEAT. 2 by the template 'for every input the law returns true; each argument reads behind the call as it read before'; 0 by the template 'total and deterministic' (their statements: Qxb6632232aTotals.lean).
  GIVEN WITH THE SEED: the statements are not yours to turn. If you find one false, say at which input.
  Laid BY PROGRAM, IN A SANDBOX (cutbox-rows.mjs): the forced cells as the released guide's own fill.sh prints them over the translation 84d510853043bc3b… (all of the seat's roots in one cut). By AI agents, Wed Nov 11 2026. No macro, syntax, notation, axiom, sorry.
-/
import Derived.Test.Qxb6632232aChecked
import GoSem.Claim
import GoSem.ClaimJoined
import GoSem.ClaimMapViews
import Derived.JoinedTies
import Derived.KernelRfl
namespace Go.Proofs.Qxb6632232a
/- THE CELL 'sum', in the pinned program and in every row, IS THE sha256 OF THE DUMP (.gsa) THAT Qxb6632232aProg.lean LOADS. Nothing in Lean hashes anything: it is a label: what it is worth is what the hold of that sum in a sandbox is worth. -/
noncomputable def Try.pinned : Pinned := { name := "qxb6632232a", sum := "84d510853043bc3b2c11d3095df8c91295a0e3b7fac34e48b76804652909692f", checked := Try.checked }
namespace Rows
def none {H : Type} : Left H := { results := [], args := [] }

/-- 'zzlaws_root_b1.FnLexExpressionMatchesAutomaton': WHATEVER THE INPUT: true; the input reads as it did. -/
def fnLexExpressionMatchesAutomatonSpec : ChangeSpec := { name := "fnLexExpressionMatchesAutomaton", fn := fun _ => fun
  | [d] => { results := [.lit (.bool true)], args := [d] }
  | _ => none }
def fnLexExpressionMatchesAutomatonRow : OpenClaim := { program := "qxb6632232a", sum := "84d510853043bc3b2c11d3095df8c91295a0e3b7fac34e48b76804652909692f", func := "example.com/workflint/workflint/zzlaws_root_b1.FnLexExpressionMatchesAutomaton", spec := "fnLexExpressionMatchesAutomaton", inPlace := ["internal/abi.NoEscape"], apart := false }
def FnLexExpressionMatchesAutomatonSaid : Prop := fnLexExpressionMatchesAutomatonRow.holds Try.pinned (OpenSpec.ofChange fnLexExpressionMatchesAutomatonSpec)

/-- ITS FALSE NEIGHBOUR: 'it returns false'. Refute it at one input. -/
def fnLexExpressionMatchesAutomatonWrong : ChangeSpec := { name := "fnLexExpressionMatchesAutomaton", fn := fun _ => fun
  | [d] => { results := [.lit (.bool false)], args := [d] }
  | _ => none }
def FnLexExpressionMatchesAutomatonWrongFalsely : Prop := fnLexExpressionMatchesAutomatonRow.holds Try.pinned (OpenSpec.ofChange fnLexExpressionMatchesAutomatonWrong)

/-- 'zzlaws_root_b1.FnLexExpressionGluesBackToInput': WHATEVER THE INPUT: true; the input reads as it did. -/
def fnLexExpressionGluesBackToInputSpec : ChangeSpec := { name := "fnLexExpressionGluesBackToInput", fn := fun _ => fun
  | [d] => { results := [.lit (.bool true)], args := [d] }
  | _ => none }
def fnLexExpressionGluesBackToInputRow : OpenClaim := { program := "qxb6632232a", sum := "84d510853043bc3b2c11d3095df8c91295a0e3b7fac34e48b76804652909692f", func := "example.com/workflint/workflint/zzlaws_root_b1.FnLexExpressionGluesBackToInput", spec := "fnLexExpressionGluesBackToInput", inPlace := ["internal/abi.NoEscape"], apart := false }
def FnLexExpressionGluesBackToInputSaid : Prop := fnLexExpressionGluesBackToInputRow.holds Try.pinned (OpenSpec.ofChange fnLexExpressionGluesBackToInputSpec)

/-- ITS FALSE NEIGHBOUR: 'it returns false'. Refute it at one input. -/
def fnLexExpressionGluesBackToInputWrong : ChangeSpec := { name := "fnLexExpressionGluesBackToInput", fn := fun _ => fun
  | [d] => { results := [.lit (.bool false)], args := [d] }
  | _ => none }
def FnLexExpressionGluesBackToInputWrongFalsely : Prop := fnLexExpressionGluesBackToInputRow.holds Try.pinned (OpenSpec.ofChange fnLexExpressionGluesBackToInputWrong)

end Rows
end Go.Proofs.Qxb6632232a
