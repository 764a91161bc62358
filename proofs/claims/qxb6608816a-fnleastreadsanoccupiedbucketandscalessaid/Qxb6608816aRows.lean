/-
  No cell of these rows narrows 'for every input' (looked for: loops, veiled, ifaces, maps, wideKeys, modest, calm, conditions, laid).
  DERIVED. THE GIVEN ROWS OF THIS SEAT. 2 by the template 'for every input the law returns true; each argument reads behind the call as it read before'; 0 by the template 'total and deterministic' (their statements: Qxb6608816aTotals.lean).
  GIVEN WITH THE SEED: the statements are not yours to turn. If you find one false, say at which input.
  Laid BY PROGRAM, IN A SANDBOX (cutbox-rows.mjs): the forced cells as the released guide's own fill.sh prints them over the translation 95721e59ca3927a8… (all of the seat's roots in one cut). By AI agents, Wed Nov 11 2026. No macro, syntax, notation, axiom, sorry.
-/
import Derived.Test.Qxb6608816aChecked
import GoSem.Claim
import GoSem.ClaimJoined
import GoSem.ClaimMapViews
import Derived.JoinedTies
import Derived.KernelRfl
namespace Go.Proofs.Qxb6608816a
/- THE CELL 'sum', in the pinned program and in every row, IS THE sha256 OF THE DUMP (.gsa) THAT Qxb6608816aProg.lean LOADS. Nothing in Lean hashes anything: it is a label: what it is worth is what the hold of that sum in a sandbox is worth. -/
noncomputable def Try.pinned : Pinned := { name := "qxb6608816a", sum := "95721e59ca3927a8d8f4a6e1b893bf76ee313920918d5b417e6fa75927adbc5d", checked := Try.checked }
namespace Rows
def none {H : Type} : Left H := { results := [], args := [] }

/-- 'zzlaws_root_b1.FnLeastPicksTheQuantileBucket': WHATEVER THE INPUT: true; the input reads as it did. -/
def fnLeastPicksTheQuantileBucketSpec : ChangeSpec := { name := "fnLeastPicksTheQuantileBucket", fn := fun _ => fun
  | [d1, d2, d3] => { results := [.lit (.bool true)], args := [d1, d2, d3] }
  | _ => none }
def fnLeastPicksTheQuantileBucketRow : OpenClaim := { program := "qxb6608816a", sum := "95721e59ca3927a8d8f4a6e1b893bf76ee313920918d5b417e6fa75927adbc5d", func := "example.com/rumorwire/rumorwire/zzlaws_root_b1.FnLeastPicksTheQuantileBucket", spec := "fnLeastPicksTheQuantileBucket", apart := false }
def FnLeastPicksTheQuantileBucketSaid : Prop := fnLeastPicksTheQuantileBucketRow.holds Try.pinned (OpenSpec.ofChange fnLeastPicksTheQuantileBucketSpec)

/-- ITS FALSE NEIGHBOUR: 'it returns false'. Refute it at one input. -/
def fnLeastPicksTheQuantileBucketWrong : ChangeSpec := { name := "fnLeastPicksTheQuantileBucket", fn := fun _ => fun
  | [d1, d2, d3] => { results := [.lit (.bool false)], args := [d1, d2, d3] }
  | _ => none }
def FnLeastPicksTheQuantileBucketWrongFalsely : Prop := fnLeastPicksTheQuantileBucketRow.holds Try.pinned (OpenSpec.ofChange fnLeastPicksTheQuantileBucketWrong)

/-- 'zzlaws_root_b1.FnLeastReadsAnOccupiedBucketAndScales': WHATEVER THE INPUT: true; the input reads as it did. -/
def fnLeastReadsAnOccupiedBucketAndScalesSpec : ChangeSpec := { name := "fnLeastReadsAnOccupiedBucketAndScales", fn := fun _ => fun
  | [d1, d2, d3] => { results := [.lit (.bool true)], args := [d1, d2, d3] }
  | _ => none }
def fnLeastReadsAnOccupiedBucketAndScalesRow : OpenClaim := { program := "qxb6608816a", sum := "95721e59ca3927a8d8f4a6e1b893bf76ee313920918d5b417e6fa75927adbc5d", func := "example.com/rumorwire/rumorwire/zzlaws_root_b1.FnLeastReadsAnOccupiedBucketAndScales", spec := "fnLeastReadsAnOccupiedBucketAndScales", apart := false }
def FnLeastReadsAnOccupiedBucketAndScalesSaid : Prop := fnLeastReadsAnOccupiedBucketAndScalesRow.holds Try.pinned (OpenSpec.ofChange fnLeastReadsAnOccupiedBucketAndScalesSpec)

/-- ITS FALSE NEIGHBOUR: 'it returns false'. Refute it at one input. -/
def fnLeastReadsAnOccupiedBucketAndScalesWrong : ChangeSpec := { name := "fnLeastReadsAnOccupiedBucketAndScales", fn := fun _ => fun
  | [d1, d2, d3] => { results := [.lit (.bool false)], args := [d1, d2, d3] }
  | _ => none }
def FnLeastReadsAnOccupiedBucketAndScalesWrongFalsely : Prop := fnLeastReadsAnOccupiedBucketAndScalesRow.holds Try.pinned (OpenSpec.ofChange fnLeastReadsAnOccupiedBucketAndScalesWrong)

end Rows
end Go.Proofs.Qxb6608816a
