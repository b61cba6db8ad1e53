/-
  No cell of these rows narrows 'for every input' (looked for: loops, veiled, ifaces, maps, wideKeys, modest, calm, conditions, laid).
  DERIVED. THE GIVEN ROWS OF THIS SEAT. 2 by the template 'for every input the law returns true; each argument reads behind the call as it read before'; 0 by the template 'total and deterministic' (their statements: Qxb6631316aTotals.lean).
  GIVEN WITH THE SEED: the statements are not yours to turn. If you find one false, say at which input.
  Laid BY PROGRAM, IN A SANDBOX (cutbox-rows.mjs): the forced cells as the released guide's own fill.sh prints them over the translation 1d75b88a9bd0b1f4… (all of the seat's roots in one cut). By AI agents, Wed Nov 11 2026. No macro, syntax, notation, axiom, sorry.
-/
import Derived.Test.Qxb6631316aChecked
import GoSem.Claim
import GoSem.ClaimJoined
import GoSem.ClaimMapViews
import Derived.JoinedTies
import Derived.KernelRfl
namespace Go.Proofs.Qxb6631316a
/- THE CELL 'sum', in the pinned program and in every row, IS THE sha256 OF THE DUMP (.gsa) THAT Qxb6631316aProg.lean LOADS. Nothing in Lean hashes anything: it is a label: what it is worth is what the hold of that sum in a sandbox is worth. -/
noncomputable def Try.pinned : Pinned := { name := "qxb6631316a", sum := "1d75b88a9bd0b1f464774fb6d7cd6150bb2da11c5ae10114a3eef83876da66ef", checked := Try.checked }
namespace Rows
def none {H : Type} : Left H := { results := [], args := [] }

/-- 'zzlaws_internal_buckets_b1.FnIndexIsFloorOfQuotient': WHATEVER THE INPUT: true; the input reads as it did. -/
def fnIndexIsFloorOfQuotientSpec : ChangeSpec := { name := "fnIndexIsFloorOfQuotient", fn := fun _ => fun
  | [d1, d2] => { results := [.lit (.bool true)], args := [d1, d2] }
  | _ => none }
def fnIndexIsFloorOfQuotientRow : OpenClaim := { program := "qxb6631316a", sum := "1d75b88a9bd0b1f464774fb6d7cd6150bb2da11c5ae10114a3eef83876da66ef", func := "example.com/weir/weir/zzlaws_internal_buckets_b1.FnIndexIsFloorOfQuotient", spec := "fnIndexIsFloorOfQuotient", apart := false }
def FnIndexIsFloorOfQuotientSaid : Prop := fnIndexIsFloorOfQuotientRow.holds Try.pinned (OpenSpec.ofChange fnIndexIsFloorOfQuotientSpec)

/-- ITS FALSE NEIGHBOUR: 'it returns false'. Refute it at one input. -/
def fnIndexIsFloorOfQuotientWrong : ChangeSpec := { name := "fnIndexIsFloorOfQuotient", fn := fun _ => fun
  | [d1, d2] => { results := [.lit (.bool false)], args := [d1, d2] }
  | _ => none }
def FnIndexIsFloorOfQuotientWrongFalsely : Prop := fnIndexIsFloorOfQuotientRow.holds Try.pinned (OpenSpec.ofChange fnIndexIsFloorOfQuotientWrong)

/-- 'zzlaws_internal_buckets_b1.FnIndexShiftByWholeBuckets': WHATEVER THE INPUT: true; the input reads as it did. -/
def fnIndexShiftByWholeBucketsSpec : ChangeSpec := { name := "fnIndexShiftByWholeBuckets", fn := fun _ => fun
  | [d1, d2, d3] => { results := [.lit (.bool true)], args := [d1, d2, d3] }
  | _ => none }
def fnIndexShiftByWholeBucketsRow : OpenClaim := { program := "qxb6631316a", sum := "1d75b88a9bd0b1f464774fb6d7cd6150bb2da11c5ae10114a3eef83876da66ef", func := "example.com/weir/weir/zzlaws_internal_buckets_b1.FnIndexShiftByWholeBuckets", spec := "fnIndexShiftByWholeBuckets", apart := false }
def FnIndexShiftByWholeBucketsSaid : Prop := fnIndexShiftByWholeBucketsRow.holds Try.pinned (OpenSpec.ofChange fnIndexShiftByWholeBucketsSpec)

/-- ITS FALSE NEIGHBOUR: 'it returns false'. Refute it at one input. -/
def fnIndexShiftByWholeBucketsWrong : ChangeSpec := { name := "fnIndexShiftByWholeBuckets", fn := fun _ => fun
  | [d1, d2, d3] => { results := [.lit (.bool false)], args := [d1, d2, d3] }
  | _ => none }
def FnIndexShiftByWholeBucketsWrongFalsely : Prop := fnIndexShiftByWholeBucketsRow.holds Try.pinned (OpenSpec.ofChange fnIndexShiftByWholeBucketsWrong)

end Rows
end Go.Proofs.Qxb6631316a
