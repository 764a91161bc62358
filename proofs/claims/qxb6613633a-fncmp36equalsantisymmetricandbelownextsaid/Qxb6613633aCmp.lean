/-
  The walks of the Decimal36 comparison, each with the plain function that it computes.
-/
import Derived.Test.Qxb6613633aRows
import Derived.WalkKit
import Derived.WalkLawsBesides
import Derived.Deep.DeepMust
import Derived.Deep.DeepCutAuto
namespace Go.Proofs.Qxb6613633a
open Go.RowKit

/-- the four cells of a Decimal36 -/
def four (h l e : Int) (n : Bool) : Array Value := #[.int .u64 h, .int .u64 l, .int .i32 e, .bool n]

theorem below_alloc {w0 w : World} (h : Below w0.heap.size w0 w) (o : Obj) : Below w0.heap.size w0 (w.alloc o) := h.alloc h.size o

def cmpB (g l : Bool) : Int := if g then 1 else if l then -1 else 0

set_option maxRecDepth 100000 in
set_option maxHeartbeats 400000 in
theorem iszero (h l e : Int) (n : Bool) (w : World) :
    Calls Try.prog 14 #[.agg #[.int .u64 h, .int .u64 l, .int .i32 e, .bool n]] w fun e' w' => e' = .returned (.bool (h == 0)) ∧ w' = w.alloc (.cells #[.int .u64 h, .int .u64 l, .int .i32 e, .bool n] 25) := by
  go_enter Try.func14, Try.ntmps14
  go_wp2
  go_ret
  exact ⟨rfl, rfl⟩

set_option maxRecDepth 100000 in
set_option maxHeartbeats 400000 in
theorem cmpBool (g l : Bool) (w : World) :
    Calls Try.prog 15 #[.bool g, .bool l] w fun e' w' => e' = .returned (.int .i64 (cmpB g l)) ∧ w' = w := by
  cases g <;> cases l
  all_goals
    go_enter Try.func15, Try.ntmps15
    go_wp2
    go_ret
    exact ⟨rfl, rfl⟩

set_option maxRecDepth 100000 in
set_option maxHeartbeats 400000 in
theorem new36 (h l e : Int) (n : Bool) (w : World) :
    Calls Try.prog 6 #[.int .u64 h, .int .u64 l, .int .i32 e, .bool n] w fun e' w' => e' = .returned (.agg #[.int .u64 h, .int .u64 l, .int .i32 e, .bool n]) ∧ w' = w.alloc (.cells #[.int .u64 h, .int .u64 l, .int .i32 e, .bool n] 25) := by
  go_enter Try.func6, Try.ntmps6
  go_wp2
  refine bodyPost_ret (v := .agg #[.int .u64 h, .int .u64 l, .int .i32 e, .bool n]) (by simp [results, Try.results6, go_sem]) rfl ⟨rfl, rfl⟩

/-- the comparison of magnitudes -/
def cmpA (h1 l1 e1 h2 l2 e2 : Int) : Int :=
  if h1 = 0 ∨ h2 = 0 then cmpB (!(h1 == 0)) (!(h2 == 0))
  else if e1 ≠ e2 then cmpB (decide (e1 > e2)) (decide (e1 < e2))
  else if h1 ≠ h2 then cmpB (decide (h1 > h2)) (decide (h1 < h2))
  else cmpB (decide (l1 > l2)) (decide (l1 < l2))

set_option maxRecDepth 100000 in
set_option maxHeartbeats 1000000 in
theorem cmpAbs_pos (h1 l1 e1 h2 l2 e2 : Int) (n1 n2 : Bool) (z1 : h1 ≠ 0) (z2 : h2 ≠ 0) (w : World) :
    Calls Try.prog 13 #[.agg #[.int .u64 h1, .int .u64 l1, .int .i32 e1, .bool n1], .agg #[.int .u64 h2, .int .u64 l2, .int .i32 e2, .bool n2]] w fun e' w' =>
      e' = .returned (.int .i64 (cmpA h1 l1 e1 h2 l2 e2)) ∧ Below w.heap.size w w' := by
  have k1 : (h1 == 0) = false := by simp [z1]
  have k2 : (h2 == 0) = false := by simp [z2]
  have z3 : ¬ (h1 = 0 ∨ h2 = 0) := by simp [z1, z2]
  obtain ⟨v, hv⟩ : ∃ v, v = cmpA h1 l1 e1 h2 l2 e2 := ⟨_, rfl⟩
  rw [← hv]
  unfold cmpA at hv
  rw [if_neg z3] at hv
  clear z3 z1 z2
  rcases Int.lt_trichotomy e1 e2 with c | c | c
  · rw [if_pos (by omega), decide_eq_false (by omega), decide_eq_true c] at hv
    have c' : (e1 != e2) = true := by simp; omega
    obtain rfl : v = -1 := hv
    go_enter Try.func13, Try.ntmps13
    go_wp2
    go_ret
    exact ⟨rfl, by repeat (first | exact Below.refl _ _ | apply below_alloc)⟩
  · subst c
    rw [if_neg (by omega)] at hv
    rcases Int.lt_trichotomy h1 h2 with c | c | c
    · rw [if_pos (by omega), decide_eq_false (by omega), decide_eq_true c] at hv
      have c' : (h1 != h2) = true := by simp; omega
      obtain rfl : v = -1 := hv
      go_enter Try.func13, Try.ntmps13
      go_wp2
      go_ret
      exact ⟨rfl, by repeat (first | exact Below.refl _ _ | apply below_alloc)⟩
    · subst c
      rw [if_neg (by omega)] at hv
      rcases Int.lt_trichotomy l1 l2 with c | c | c
      · rw [decide_eq_false (by omega), decide_eq_true c] at hv
        obtain rfl : v = -1 := hv
        go_enter Try.func13, Try.ntmps13
        go_wp2
        go_ret
        exact ⟨rfl, by repeat (first | exact Below.refl _ _ | apply below_alloc)⟩
      · subst c
        rw [decide_eq_false (by omega)] at hv
        have c' : ¬ l1 < l1 := by omega
        obtain rfl : v = 0 := hv
        go_enter Try.func13, Try.ntmps13
        go_wp2
        go_ret
        exact ⟨rfl, by repeat (first | exact Below.refl _ _ | apply below_alloc)⟩
      · rw [decide_eq_true (by omega)] at hv
        obtain rfl : v = 1 := hv
        go_enter Try.func13, Try.ntmps13
        go_wp2
        go_ret
        exact ⟨rfl, by repeat (first | exact Below.refl _ _ | apply below_alloc)⟩
    · rw [if_pos (by omega), decide_eq_true (by omega)] at hv
      have c' : (h1 != h2) = true := by simp; omega
      obtain rfl : v = 1 := hv
      go_enter Try.func13, Try.ntmps13
      go_wp2
      go_ret
      exact ⟨rfl, by repeat (first | exact Below.refl _ _ | apply below_alloc)⟩
  · rw [if_pos (by omega), decide_eq_true (by omega)] at hv
    have c' : (e1 != e2) = true := by simp; omega
    obtain rfl : v = 1 := hv
    go_enter Try.func13, Try.ntmps13
    go_wp2
    go_ret
    exact ⟨rfl, by repeat (first | exact Below.refl _ _ | apply below_alloc)⟩

end Go.Proofs.Qxb6613633a
