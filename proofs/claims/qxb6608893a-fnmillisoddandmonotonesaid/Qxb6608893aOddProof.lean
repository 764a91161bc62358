/-
  THE STATEMENT 'Rows.FnMillisOddAndMonotoneSaid', PROVED.
-/
import Derived.Test.Qxb6608893aRows
import Derived.Test.Qxb6608893aLaws
import Derived.WalkKit
import Derived.ProofKit
import Derived.OpenShut
import Derived.WalkLawsBesides
namespace Go.Proofs.Qxb6608893a.fnMillisOddAndMonotone
open Go.ChangeShapes Go.WideShapes Go.ChangeAt Go.RowKit

theorem own : ownKnob Try.prog.godebug = none := by kernel_rfl

set_option maxRecDepth 100000 in
theorem lifted (os : Os) (started : os.Started) (H : Type) (enc : TypeId × Value → H) :
    ReturnsInHanded {} Try.checked os 4 .any (Rows.fnMillisOddAndMonotoneSpec.pre6 enc Try.prog Try.f4 Rows.fnMillisOddAndMonotoneRow.domain false) (Rows.fnMillisOddAndMonotoneSpec.post enc Try.prog Try.f4 false true false false) := by
  refine returnsInHanded_of_change (C := Try.checked) own started (by kernel_rfl) Try.func4
    (ChangeSpec.witness6 (enc := enc) (C := Try.checked) false ⟨#[], #[.float .f64 0, .float .f64 0], []⟩ 8 (by kernel_rfl) (by kernel_rfl) (by kernel_rfl) (by kernel_rfl)) ?_
  intro W base args ds gs before hval0 hW hcnd _
  have hval : ∀ (j : Nat) t v, Try.f4.params[j]? = some t → args[j]? = some v → Value.okWide Try.prog W .any base t v := hval0
  have hW' := hW
  obtain ⟨p, q, hA0, hV, rfl, hfz, hnd⟩ := hW
  have hA : DataW.TrodAll enc Try.prog W 0 (fun _ => true) true Try.f4.params.toList args.toList ds p := hA0
  rw [Try.params4] at hA hval
  obtain ⟨v0, v1, d0, d1, p0, p1, rfl, rfl, rfl, h0, h1⟩ := trodAll_two hA
  obtain ⟨rfl, rfl⟩ := trodVars_none hV
  obtain ⟨x, rfl, rfl, rfl, wx⟩ := open_float Try.underlying22 (hval 0 22 v0 rfl rfl) h0
  obtain ⟨y, rfl, rfl, rfl, wy⟩ := open_float Try.underlying22 (hval 1 22 v1 rfl rfl) h1
  have hx : x < 18446744073709551616 := by simpa [Lit.wf] using wx
  clear hA0 hval0
  simp only [List.append_nil] at hW'
  refine (law2 x y hx W).mono fun e W' ⟨he, hg⟩ => ?_
  subst he
  subst hg
  exact ⟨_, rfl, post_of_same (pa := []) (pv := []) hW' (fun _ _ _ => trodAll_mk1 (shut_bool Try.underlying4 _)) (fun sp _ => trodAll_mk2 (shut_float Try.underlying22 wx) (shut_float Try.underlying22 wy)) (fun _ _ => rfl) rfl
    ((Grown.refl _).frame _) (Grown.refl _).2.1 (ok_one (by kernel_rfl) rfl (okWide_bool_mk Try.underlying4 _))⟩

theorem over : Rows.fnMillisOddAndMonotoneRow.holds Try.pinned (OpenSpec.ofChange Rows.fnMillisOddAndMonotoneSpec) :=
  OpenClaim.holds_of_wide 4 Try.f4 rfl rfl rfl rfl rfl rfl rfl ⟨rfl, rfl, rfl, rfl, rfl⟩ rfl rfl rfl rfl rfl (by kernel_rfl) Try.func4 (by kernel_rfl)
    (of_decide_eq_true (by kernel_rfl)) (by unfold Func.isWrapper; first | (rw [if_pos (by decide +kernel)]; kernel_rfl) | (rw [if_neg (by decide +kernel)]; exact ⟨rfl, rfl⟩))
    (fun os started H enc _ => lifted os started H enc)

/-- THE STATEMENT -/
theorem proved : Rows.FnMillisOddAndMonotoneSaid :=
  over
#print axioms proved
end Go.Proofs.Qxb6608893a.fnMillisOddAndMonotone
