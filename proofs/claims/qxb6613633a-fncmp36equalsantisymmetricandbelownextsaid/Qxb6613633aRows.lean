/-
  No cell of these rows narrows 'for every input' (looked for: loops, veiled, ifaces, maps, wideKeys, modest, calm, conditions, laid).
  DERIVED. THE GIVEN ROWS OF THIS SEAT. 2 by the template 'for every input the law returns true; each argument reads behind the call as it read before'; 0 by the template 'total and deterministic' (their statements: Qxb6613633aTotals.lean).
  GIVEN WITH THE SEED: the statements are not yours to turn. If you find one false, say at which input.
  Laid BY PROGRAM, IN A SANDBOX (cutbox-rows.mjs): the forced cells as the released guide's own fill.sh prints them over the translation 72d4252b3bbc8127… (all of the seat's roots in one cut). By AI agents, Wed Nov 11 2026. No macro, syntax, notation, axiom, sorry.
-/
import Derived.Test.Qxb6613633aChecked
import GoSem.Claim
import GoSem.ClaimJoined
import GoSem.ClaimMapViews
import Derived.JoinedTies
import Derived.KernelRfl
namespace Go.Proofs.Qxb6613633a
/- THE CELL 'sum', in the pinned program and in every row, IS THE sha256 OF THE DUMP (.gsa) THAT Qxb6613633aProg.lean LOADS. Nothing in Lean hashes anything: it is a label: what it is worth is what the hold of that sum in a sandbox is worth. -/
noncomputable def Try.pinned : Pinned := { name := "qxb6613633a", sum := "72d4252b3bbc81276b7f71197a2dc98312abef8a89728fa36b225dcbce737b60", checked := Try.checked }
namespace Rows
def none {H : Type} : Left H := { results := [], args := [] }

/-- 'zzlaws_root_b1.FnCmp36EqualsAntisymmetricAndBelowNext': WHATEVER THE INPUT: true; the input reads as it did. -/
def fnCmp36EqualsAntisymmetricAndBelowNextSpec : ChangeSpec := { name := "fnCmp36EqualsAntisymmetricAndBelowNext", fn := fun _ => fun
  | [d1, d2, d3, d4, d5, d6, d7, d8] => { results := [.lit (.bool true)], args := [d1, d2, d3, d4, d5, d6, d7, d8] }
  | _ => none }
def fnCmp36EqualsAntisymmetricAndBelowNextRow : OpenClaim := { program := "qxb6613633a", sum := "72d4252b3bbc81276b7f71197a2dc98312abef8a89728fa36b225dcbce737b60", func := "example.com/kezhuan/kezhuan/zzlaws_root_b1.FnCmp36EqualsAntisymmetricAndBelowNext", spec := "fnCmp36EqualsAntisymmetricAndBelowNext", apart := false }
def FnCmp36EqualsAntisymmetricAndBelowNextSaid : Prop := fnCmp36EqualsAntisymmetricAndBelowNextRow.holds Try.pinned (OpenSpec.ofChange fnCmp36EqualsAntisymmetricAndBelowNextSpec)

/-- ITS FALSE NEIGHBOUR: 'it returns false'. Refute it at one input. -/
def fnCmp36EqualsAntisymmetricAndBelowNextWrong : ChangeSpec := { name := "fnCmp36EqualsAntisymmetricAndBelowNext", fn := fun _ => fun
  | [d1, d2, d3, d4, d5, d6, d7, d8] => { results := [.lit (.bool false)], args := [d1, d2, d3, d4, d5, d6, d7, d8] }
  | _ => none }
def FnCmp36EqualsAntisymmetricAndBelowNextWrongFalsely : Prop := fnCmp36EqualsAntisymmetricAndBelowNextRow.holds Try.pinned (OpenSpec.ofChange fnCmp36EqualsAntisymmetricAndBelowNextWrong)

/-- 'zzlaws_root_b1.FnCmp36TransitiveAndSigned': WHATEVER THE INPUT: true; the input reads as it did. -/
def fnCmp36TransitiveAndSignedSpec : ChangeSpec := { name := "fnCmp36TransitiveAndSigned", fn := fun _ => fun
  | [d1, d2, d3, d4, d5, d6, d7, d8, d9, d10, d11, d12] => { results := [.lit (.bool true)], args := [d1, d2, d3, d4, d5, d6, d7, d8, d9, d10, d11, d12] }
  | _ => none }
def fnCmp36TransitiveAndSignedRow : OpenClaim := { program := "qxb6613633a", sum := "72d4252b3bbc81276b7f71197a2dc98312abef8a89728fa36b225dcbce737b60", func := "example.com/kezhuan/kezhuan/zzlaws_root_b1.FnCmp36TransitiveAndSigned", spec := "fnCmp36TransitiveAndSigned", apart := false }
def FnCmp36TransitiveAndSignedSaid : Prop := fnCmp36TransitiveAndSignedRow.holds Try.pinned (OpenSpec.ofChange fnCmp36TransitiveAndSignedSpec)

/-- ITS FALSE NEIGHBOUR: 'it returns false'. Refute it at one input. -/
def fnCmp36TransitiveAndSignedWrong : ChangeSpec := { name := "fnCmp36TransitiveAndSigned", fn := fun _ => fun
  | [d1, d2, d3, d4, d5, d6, d7, d8, d9, d10, d11, d12] => { results := [.lit (.bool false)], args := [d1, d2, d3, d4, d5, d6, d7, d8, d9, d10, d11, d12] }
  | _ => none }
def FnCmp36TransitiveAndSignedWrongFalsely : Prop := fnCmp36TransitiveAndSignedRow.holds Try.pinned (OpenSpec.ofChange fnCmp36TransitiveAndSignedWrong)

end Rows
end Go.Proofs.Qxb6613633a
