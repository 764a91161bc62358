/-
  cmpAbs where one of the two is zero: the region draws its order.
-/
import Derived.Test.Qxb6613633aCmp
import Derived.Deep.RegionWith
namespace Go.Proofs.Qxb6613633a
open Go.RowKit
set_option maxRecDepth 100000 in
set_option maxHeartbeats 1000000 in
theorem cmpAbs_zero (h1 l1 e1 h2 l2 e2 : Int) (n1 n2 : Bool) (z : h1 = 0 ∨ h2 = 0) (w : World) :
    Calls Try.prog 13 #[.agg #[.int .u64 h1, .int .u64 l1, .int .i32 e1, .bool n1], .agg #[.int .u64 h2, .int .u64 l2, .int .i32 e2, .bool n2]] w fun e' w' =>
      e' = .returned (.int .i64 (cmpA h1 l1 e1 h2 l2 e2)) ∧ Below w.heap.size w w' := by
  unfold cmpA
  rw [if_pos z]
  cases k1 : (h1 == 0) with
  | true =>
    go_enter Try.func13, Try.ntmps13
    go_wp2
    go_region_with (first | (go_at_call 14; refine (iszero _ _ _ _ _).mono ?_; rintro e w' ⟨rfl, rfl⟩) | (go_at_call 15; refine (cmpBool _ _ _).mono ?_; rintro e w' ⟨rfl, rfl⟩))
    all_goals
      go_wp2
      go_ret
      exact ⟨rfl, by repeat (first | exact Below.refl _ _ | apply below_alloc | apply Below.drew)⟩
  | false =>
    have k2 : (h2 == 0) = true := by simp at k1 ⊢; omega
    go_enter Try.func13, Try.ntmps13
    go_wp2
    go_region_with (first | (go_at_call 14; refine (iszero _ _ _ _ _).mono ?_; rintro e w' ⟨rfl, rfl⟩) | (go_at_call 15; refine (cmpBool _ _ _).mono ?_; rintro e w' ⟨rfl, rfl⟩))
    all_goals
      go_wp2
      go_ret
      exact ⟨rfl, by repeat (first | exact Below.refl _ _ | apply below_alloc | apply Below.drew)⟩

theorem cmpAbs (h1 l1 e1 h2 l2 e2 : Int) (n1 n2 : Bool) (w : World) :
    Calls Try.prog 13 #[.agg #[.int .u64 h1, .int .u64 l1, .int .i32 e1, .bool n1], .agg #[.int .u64 h2, .int .u64 l2, .int .i32 e2, .bool n2]] w fun e' w' =>
      e' = .returned (.int .i64 (cmpA h1 l1 e1 h2 l2 e2)) ∧ Below w.heap.size w w' := by
  by_cases z : h1 = 0 ∨ h2 = 0
  · exact cmpAbs_zero h1 l1 e1 h2 l2 e2 n1 n2 z w
  · exact cmpAbs_pos h1 l1 e1 h2 l2 e2 n1 n2 (fun h => z (Or.inl h)) (fun h => z (Or.inr h)) w

end Go.Proofs.Qxb6613633a
