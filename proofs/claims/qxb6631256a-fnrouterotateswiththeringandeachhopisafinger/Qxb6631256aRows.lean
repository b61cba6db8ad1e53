/-
  No cell of these rows narrows 'for every input' (looked for: loops, veiled, ifaces, maps, wideKeys, modest, calm, conditions, laid).
  DERIVED. THE GIVEN ROWS OF THIS SEAT. 2 by the template 'for every input the law returns true; each argument reads behind the call as it read before'; 0 by the template 'total and deterministic' (their statements: Qxb6631256aTotals.lean).
  GIVEN WITH THE SEED: the statements are not yours to turn. If you find one false, say at which input.
  Laid BY PROGRAM, IN A SANDBOX (cutbox-rows.mjs): the forced cells as the released guide's own fill.sh prints them over the translation 50ee898e8b8fa7ab… (all of the seat's roots in one cut). By AI agents, Wed Nov 11 2026. No macro, syntax, notation, axiom, sorry.
-/
import Derived.Test.Qxb6631256aChecked
import GoSem.Claim
import GoSem.ClaimJoined
import GoSem.ClaimMapViews
import Derived.JoinedTies
import Derived.KernelRfl
namespace Go.Proofs.Qxb6631256a
/- THE CELL 'sum', in the pinned program and in every row, IS THE sha256 OF THE DUMP (.gsa) THAT Qxb6631256aProg.lean LOADS. Nothing in Lean hashes anything: it is a label: what it is worth is what the hold of that sum in a sandbox is worth. -/
noncomputable def Try.pinned : Pinned := { name := "qxb6631256a", sum := "50ee898e8b8fa7abea20a945f3fedd384c5ffd571664e8f1fb89f80dd02d68fe", checked := Try.checked }
namespace Rows
def none {H : Type} : Left H := { results := [], args := [] }

/-- 'zzlaws_internal_ring_b1.FnRouteIsGreedyDecompositionAndSuffixClosed': WHATEVER THE INPUT: true; the input reads as it did. -/
def fnRouteIsGreedyDecompositionAndSuffixClosedSpec : ChangeSpec := { name := "fnRouteIsGreedyDecompositionAndSuffixClosed", fn := fun _ => fun
  | [d1, d2, d3, d4, d5] => { results := [.lit (.bool true)], args := [d1, d2, d3, d4, d5] }
  | _ => none }
def fnRouteIsGreedyDecompositionAndSuffixClosedRow : OpenClaim := { program := "qxb6631256a", sum := "50ee898e8b8fa7abea20a945f3fedd384c5ffd571664e8f1fb89f80dd02d68fe", func := "example.com/ringfinger/ringfinger/zzlaws_internal_ring_b1.FnRouteIsGreedyDecompositionAndSuffixClosed", spec := "fnRouteIsGreedyDecompositionAndSuffixClosed", apart := false }
def FnRouteIsGreedyDecompositionAndSuffixClosedSaid : Prop := fnRouteIsGreedyDecompositionAndSuffixClosedRow.holds Try.pinned (OpenSpec.ofChange fnRouteIsGreedyDecompositionAndSuffixClosedSpec)

/-- ITS FALSE NEIGHBOUR: 'it returns false'. Refute it at one input. -/
def fnRouteIsGreedyDecompositionAndSuffixClosedWrong : ChangeSpec := { name := "fnRouteIsGreedyDecompositionAndSuffixClosed", fn := fun _ => fun
  | [d1, d2, d3, d4, d5] => { results := [.lit (.bool false)], args := [d1, d2, d3, d4, d5] }
  | _ => none }
def FnRouteIsGreedyDecompositionAndSuffixClosedWrongFalsely : Prop := fnRouteIsGreedyDecompositionAndSuffixClosedRow.holds Try.pinned (OpenSpec.ofChange fnRouteIsGreedyDecompositionAndSuffixClosedWrong)

/-- 'zzlaws_internal_ring_b1.FnRouteRotatesWithTheRingAndEachHopIsAFinger': WHATEVER THE INPUT: true; the input reads as it did. -/
def fnRouteRotatesWithTheRingAndEachHopIsAFingerSpec : ChangeSpec := { name := "fnRouteRotatesWithTheRingAndEachHopIsAFinger", fn := fun _ => fun
  | [d1, d2, d3, d4, d5] => { results := [.lit (.bool true)], args := [d1, d2, d3, d4, d5] }
  | _ => none }
def fnRouteRotatesWithTheRingAndEachHopIsAFingerRow : OpenClaim := { program := "qxb6631256a", sum := "50ee898e8b8fa7abea20a945f3fedd384c5ffd571664e8f1fb89f80dd02d68fe", func := "example.com/ringfinger/ringfinger/zzlaws_internal_ring_b1.FnRouteRotatesWithTheRingAndEachHopIsAFinger", spec := "fnRouteRotatesWithTheRingAndEachHopIsAFinger", apart := false }
def FnRouteRotatesWithTheRingAndEachHopIsAFingerSaid : Prop := fnRouteRotatesWithTheRingAndEachHopIsAFingerRow.holds Try.pinned (OpenSpec.ofChange fnRouteRotatesWithTheRingAndEachHopIsAFingerSpec)

/-- ITS FALSE NEIGHBOUR: 'it returns false'. Refute it at one input. -/
def fnRouteRotatesWithTheRingAndEachHopIsAFingerWrong : ChangeSpec := { name := "fnRouteRotatesWithTheRingAndEachHopIsAFinger", fn := fun _ => fun
  | [d1, d2, d3, d4, d5] => { results := [.lit (.bool false)], args := [d1, d2, d3, d4, d5] }
  | _ => none }
def FnRouteRotatesWithTheRingAndEachHopIsAFingerWrongFalsely : Prop := fnRouteRotatesWithTheRingAndEachHopIsAFingerRow.holds Try.pinned (OpenSpec.ofChange fnRouteRotatesWithTheRingAndEachHopIsAFingerWrong)

end Rows
end Go.Proofs.Qxb6631256a
