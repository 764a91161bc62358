/-
  THE STATEMENT 'Rows.FnLeastReadsAnOccupiedBucketAndScalesSaid', PROVED.
-/
import Derived.Test.Qxb6608816aRows
import Derived.Test.Qxb6608816aLaw2
import Derived.Test.Qxb6608816aOpen
import Derived.WalkKit
import Derived.ProofKit
import Derived.OpenShut
import Derived.WalkLawsBesides
namespace Go.Proofs.Qxb6608816a.fnLeastReadsAnOccupiedBucketAndScales
open Go.ChangeShapes Go.WideShapes Go.ChangeAt Go.RowKit

theorem own : ownKnob Try.prog.godebug = none := by kernel_rfl

set_option maxRecDepth 100000 in
set_option maxHeartbeats 400000 in
theorem walk0 (cs : Array Value) (x : Nat → Nat) (hsz : cs.size = 256) (hx : ∀ k, k < 256 → cs[k]? = some (.float .f32 (x k))) (hx0 : Hid (∀ j, 256 ≤ j → x j = 0)) (iv : Int) (thr : Nat) (w : World) :
    Calls Try.prog 4 #[.agg cs, .int .i64 iv, .float .f64 thr] w fun e w' => e = .returned (.bool true) ∧ Grown w w' := by
  have HS : Hid (cs.size = 256) := hsz
  have HX : Hid (∀ k, k < 256 → cs[k]? = some (.float .f32 (x k))) := hx
  clear hsz hx
  by_cases h1 : 1 ≤ iv
  · by_cases h2 : iv ≤ 1099511627776
    · cases ht : (FloatKind.f64.format.order thr 4562254508917369340 == some .gt || FloatKind.f64.format.order thr 4562254508917369340 == some .eq) with
      | true => exact law2 cs x HS HX hx0 iv thr w h1 h2 ht
      | false =>
        go_enter Try.func4, Try.ntmps4
        go_wp2
        go_ret
        exact ⟨rfl, (Grown.refl _).alloc _ _⟩
    · go_enter Try.func4, Try.ntmps4
      go_wp2
      go_ret
      exact ⟨rfl, (Grown.refl _).alloc _ _⟩
  · go_enter Try.func4, Try.ntmps4
    go_wp2
    go_ret
    exact ⟨rfl, (Grown.refl _).alloc _ _⟩

theorem walk (cs : Array Value) (x : Nat → Nat) (hsz : cs.size = 256) (hx : ∀ k, k < 256 → cs[k]? = some (.float .f32 (x k))) (iv : Int) (thr : Nat) (w : World) :
    Calls Try.prog 4 #[.agg cs, .int .i64 iv, .float .f64 thr] w fun e w' => e = .returned (.bool true) ∧ Grown w w' :=
  walk0 cs (fun j => if j < 256 then x j else 0) hsz (fun k hk => by simp only [if_pos hk]; exact hx k hk) (fun j hj => if_neg (by omega)) iv thr w

set_option maxRecDepth 100000 in
theorem lifted (os : Os) (started : os.Started) (H : Type) (enc : TypeId × Value → H) :
    ReturnsInHanded {} Try.checked os 4 .any (Rows.fnLeastReadsAnOccupiedBucketAndScalesSpec.pre6 enc Try.prog Try.f4 Rows.fnLeastReadsAnOccupiedBucketAndScalesRow.domain false) (Rows.fnLeastReadsAnOccupiedBucketAndScalesSpec.post enc Try.prog Try.f4 false true false false) := by
  refine returnsInHanded_of_change (C := Try.checked) own started (by kernel_rfl) Try.func4
    (ChangeSpec.witness6 (enc := enc) (C := Try.checked) false ⟨#[], #[.agg (Array.replicate 256 (.float .f32 0)), .int .i64 0, .float .f64 0], []⟩ 8 (by kernel_rfl) (by kernel_rfl) (by kernel_rfl) (by kernel_rfl)) ?_
  intro W base args ds gs before hval0 hW hcnd _
  have hval : ∀ (j : Nat) t v, Try.f4.params[j]? = some t → args[j]? = some v → Value.okWide Try.prog W .any base t v := hval0
  have hW' := hW
  obtain ⟨p, q, hA0, hV, rfl, hfz, hnd⟩ := hW
  have hA : DataW.TrodAll enc Try.prog W 0 (fun _ => true) true Try.f4.params.toList args.toList ds p := hA0
  rw [Try.params4] at hA hval
  obtain ⟨v0, v1, v2, d0, d1, d2, p0, p1, p2, rfl, rfl, rfl, h0, h1, h2⟩ := trodAll_three hA
  obtain ⟨rfl, rfl⟩ := trodVars_none hV
  obtain ⟨cs, x, rfl, hsz, hx, rfl, hsame⟩ := open_floats (hval 0 23 v0 rfl rfl) h0
  obtain ⟨iv, rfl, rfl, rfl, wiv⟩ := open_int Try.underlying2 (hval 1 2 v1 rfl rfl) h1
  obtain ⟨thr, rfl, rfl, rfl, wthr⟩ := open_float Try.underlying24 (hval 2 24 v2 rfl rfl) h2
  clear hA0 hval0
  simp only [List.append_nil] at hW'
  refine (walk cs x hsz hx iv thr W).mono fun e W' ⟨he, hg⟩ => ?_
  subst he
  exact ⟨_, rfl, post_of_same (pa := []) (pv := []) hW' (fun _ _ _ => trodAll_mk1 (shut_bool Try.underlying4 _)) (fun sp _ => trodAll_mk3 (hsame W' 0 sp) (shut_int Try.underlying2 wiv) (shut_float Try.underlying24 wthr)) (fun _ _ => rfl) rfl
    (hg.frame _) hg.2.1 (ok_one (by kernel_rfl) rfl (okWide_bool_mk Try.underlying4 _))⟩

theorem over : Rows.fnLeastReadsAnOccupiedBucketAndScalesRow.holds Try.pinned (OpenSpec.ofChange Rows.fnLeastReadsAnOccupiedBucketAndScalesSpec) :=
  OpenClaim.holds_of_wide 4 Try.f4 rfl rfl rfl rfl rfl rfl rfl ⟨rfl, rfl, rfl, rfl, rfl⟩ rfl rfl rfl rfl rfl (by kernel_rfl) Try.func4 (by kernel_rfl)
    (of_decide_eq_true (by kernel_rfl)) (by unfold Func.isWrapper; first | (rw [if_pos (by decide +kernel)]; kernel_rfl) | (rw [if_neg (by decide +kernel)]; exact ⟨rfl, rfl⟩))
    (fun os started H enc _ => lifted os started H enc)

/-- THE STATEMENT -/
theorem proved : Rows.FnLeastReadsAnOccupiedBucketAndScalesSaid :=
  over
#print axioms proved
end Go.Proofs.Qxb6608816a.fnLeastReadsAnOccupiedBucketAndScales
