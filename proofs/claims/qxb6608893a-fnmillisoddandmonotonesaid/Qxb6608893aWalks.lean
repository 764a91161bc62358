/-
  The walks of math.Round, millis and ZZmillis.
-/
import Derived.Test.Qxb6608893aRows
import Derived.Test.Qxb6608893aRnd
import Derived.WalkKit
import Derived.WalkLawsBesides
import Derived.Laws.FloatArith
import Derived.Laws.Externs
namespace Go.Proofs.Qxb6608893a
open Go.RowKit

theorem bits_run (x : Nat) (w : World) : (callFunc 13 #[.float .f64 x]).run Try.prog w = .ok (.value (.int .u64 (x : Int))) w := by
  rw [run_callFunc_extern (e := Extern.MathFloatBits.float64bits) Try.func13 (by kernel_rfl) rfl (by kernel_rfl) (by kernel_rfl)]
  rfl
theorem frombits_run (n : Int) (w : World) : (callFunc 14 #[.int .u64 n]).run Try.prog w = .ok (.value (.float .f64 n.toNat)) w := by
  rw [run_callFunc_extern (e := Extern.MathFloatBits.float64frombits) Try.func14 (by kernel_rfl) rfl (by kernel_rfl) (by kernel_rfl)]
  rfl

set_option maxRecDepth 100000 in
set_option maxHeartbeats 400000 in
theorem round_walk (x : Nat) (w : World) :
    Calls Try.prog 12 #[.float .f64 x] w fun e w' => e = .returned (.float .f64 (rnd x)) ∧ w' = w := by
  have h13 := bits_run
  have h14 := frombits_run
  go_enter Try.func12, Try.ntmps12
  go_wp2
  · go_ret
    rename_i a b
    refine ⟨?_, rfl⟩
    unfold rnd
    rw [if_pos a, if_pos b]
    rfl
  · go_ret
    rename_i a b
    refine ⟨?_, rfl⟩
    unfold rnd
    rw [if_pos a, if_neg (by rw [b]; decide)]
    rfl
  · go_ret
    rename_i a b
    refine ⟨?_, rfl⟩
    unfold rnd
    rw [if_neg (by omega), if_pos b]
    rfl
  · go_ret
    rename_i a b
    refine ⟨?_, rfl⟩
    unfold rnd
    rw [if_neg (by omega), if_neg (by omega)]
    rfl

/-- what millis gives at x: p is the product -/
def MillisIs (x p : Nat) (m : Int) : Prop := floatBits .mul .f64 x 4652007308841189376 = some p ∧ floatToIntVal .f64 (rnd p) .i64 = some m

set_option maxRecDepth 100000 in
set_option maxHeartbeats 400000 in
theorem millis_walk (x p : Nat) (m : Int) (h : MillisIs x p m) (w : World) :
    Calls Try.prog 10 #[.float .f64 x] w fun e w' => e = .returned (.int .i64 m) ∧ w' = w := by
  obtain ⟨h1, h2⟩ := h
  have o1 := fun t w => run_float_arith (P := Try.prog) w .mul t .f64 _ _ p h1
  have o2 := fun w => run_convert_float_int (P := Try.prog) w 22 2 .f64 .i64 (rnd p) m (by rw [Try.underlying22]; rfl) Try.underlying2 h2
  clear h1 h2
  have hr := round_walk
  go_enter Try.func10, Try.ntmps10
  go_wp2_with (first | (rw [o1]) | (rw [o2]) | (go_at_call 12; refine (hr p _).mono ?_; rintro e w' ⟨rfl, rfl⟩))
  go_ret
  exact ⟨rfl, rfl⟩

set_option maxRecDepth 100000 in
set_option maxHeartbeats 400000 in
theorem zz_walk (x p : Nat) (m : Int) (h : MillisIs x p m) (w : World) :
    Calls Try.prog 6 #[.float .f64 x] w fun e w' => e = .returned (.int .i64 m) ∧ w' = w := by
  go_enter Try.func6, Try.ntmps6
  go_wp2_with (first | (go_at_call 10; refine (millis_walk x p m h _).mono ?_; rintro e w' ⟨rfl, rfl⟩))
  go_ret
  exact ⟨rfl, rfl⟩

end Go.Proofs.Qxb6608893a
