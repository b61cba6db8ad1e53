/-
  No cell of these rows narrows 'for every input' (looked for: loops, veiled, ifaces, maps, wideKeys, modest, calm, conditions, laid).
  DERIVED. THE GIVEN ROWS OF THIS SEAT. 2 by the template 'for every input the law returns true; each argument reads behind the call as it read before'; 0 by the template 'total and deterministic' (their statements: Qxb6632282aTotals.lean).
  GIVEN WITH THE SEED: the statements are not yours to turn. If you find one false, say at which input.
  Laid BY PROGRAM, IN A SANDBOX (cutbox-rows.mjs): the forced cells as the released guide's own fill.sh prints them over the translation 7123bdc826ff6296… (all of the seat's roots in one cut). By AI agents, Wed Nov 11 2026. No macro, syntax, notation, axiom, sorry.
-/
import Derived.Test.Qxb6632282aChecked
import GoSem.Claim
import GoSem.ClaimJoined
import GoSem.ClaimMapViews
import Derived.JoinedTies
import Derived.KernelRfl
namespace Go.Proofs.Qxb6632282a
/- THE CELL 'sum', in the pinned program and in every row, IS THE sha256 OF THE DUMP (.gsa) THAT Qxb6632282aProg.lean LOADS. Nothing in Lean hashes anything: it is a label: what it is worth is what the hold of that sum in a sandbox is worth. -/
noncomputable def Try.pinned : Pinned := { name := "qxb6632282a", sum := "7123bdc826ff629632b69d28873ea314edb8664d3d9d43dca166d79701cceece", checked := Try.checked }
namespace Rows
def none {H : Type} : Left H := { results := [], args := [] }

/-- 'zzlaws_internal_jsonl_b1.FnMeasureAgreesWithStringSpanModel': WHATEVER THE INPUT: true; the input reads as it did. -/
def fnMeasureAgreesWithStringSpanModelSpec : ChangeSpec := { name := "fnMeasureAgreesWithStringSpanModel", fn := fun _ => fun
  | [d] => { results := [.lit (.bool true)], args := [d] }
  | _ => none }
def fnMeasureAgreesWithStringSpanModelRow : OpenClaim := { program := "qxb6632282a", sum := "7123bdc826ff629632b69d28873ea314edb8664d3d9d43dca166d79701cceece", func := "example.com/tool-call-mender/tool-call-mender/zzlaws_internal_jsonl_b1.FnMeasureAgreesWithStringSpanModel", spec := "fnMeasureAgreesWithStringSpanModel", apart := false }
def FnMeasureAgreesWithStringSpanModelSaid : Prop := fnMeasureAgreesWithStringSpanModelRow.holds Try.pinned (OpenSpec.ofChange fnMeasureAgreesWithStringSpanModelSpec)

/-- ITS FALSE NEIGHBOUR: 'it returns false'. Refute it at one input. -/
def fnMeasureAgreesWithStringSpanModelWrong : ChangeSpec := { name := "fnMeasureAgreesWithStringSpanModel", fn := fun _ => fun
  | [d] => { results := [.lit (.bool false)], args := [d] }
  | _ => none }
def FnMeasureAgreesWithStringSpanModelWrongFalsely : Prop := fnMeasureAgreesWithStringSpanModelRow.holds Try.pinned (OpenSpec.ofChange fnMeasureAgreesWithStringSpanModelWrong)

/-- 'zzlaws_internal_jsonl_b1.FnMeasureQuoteFreePrefixJoins': WHATEVER THE INPUT: true; the input reads as it did. -/
def fnMeasureQuoteFreePrefixJoinsSpec : ChangeSpec := { name := "fnMeasureQuoteFreePrefixJoins", fn := fun _ => fun
  | [d1, d2] => { results := [.lit (.bool true)], args := [d1, d2] }
  | _ => none }
def fnMeasureQuoteFreePrefixJoinsRow : OpenClaim := { program := "qxb6632282a", sum := "7123bdc826ff629632b69d28873ea314edb8664d3d9d43dca166d79701cceece", func := "example.com/tool-call-mender/tool-call-mender/zzlaws_internal_jsonl_b1.FnMeasureQuoteFreePrefixJoins", spec := "fnMeasureQuoteFreePrefixJoins", apart := false }
def FnMeasureQuoteFreePrefixJoinsSaid : Prop := fnMeasureQuoteFreePrefixJoinsRow.holds Try.pinned (OpenSpec.ofChange fnMeasureQuoteFreePrefixJoinsSpec)

/-- ITS FALSE NEIGHBOUR: 'it returns false'. Refute it at one input. -/
def fnMeasureQuoteFreePrefixJoinsWrong : ChangeSpec := { name := "fnMeasureQuoteFreePrefixJoins", fn := fun _ => fun
  | [d1, d2] => { results := [.lit (.bool false)], args := [d1, d2] }
  | _ => none }
def FnMeasureQuoteFreePrefixJoinsWrongFalsely : Prop := fnMeasureQuoteFreePrefixJoinsRow.holds Try.pinned (OpenSpec.ofChange fnMeasureQuoteFreePrefixJoinsWrong)

end Rows
end Go.Proofs.Qxb6632282a
