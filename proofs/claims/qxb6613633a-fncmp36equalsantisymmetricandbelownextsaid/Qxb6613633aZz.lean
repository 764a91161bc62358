/-
  The walks of Cmp, cmp, ZZCmp36, canon36, sign36, next36.
-/
import Derived.Test.Qxb6613633aZero
namespace Go.Proofs.Qxb6613633a
open Go.RowKit

/-- the comparison of two values -/
def cmpD (h1 l1 e1 : Int) (n1 : Bool) (h2 l2 e2 : Int) (n2 : Bool) : Int :=
  if n1 != n2 then (if n1 then -1 else 1) else if n1 then cmpA h2 l2 e2 h1 l1 e1 else cmpA h1 l1 e1 h2 l2 e2

theorem below_call {w0 w1 w2 : World} (h : Below w0.heap.size w0 w1) (k : Below w1.heap.size w1 w2) : Below w0.heap.size w0 w2 := h.trans (k.mono h.size)

set_option maxRecDepth 100000 in
set_option maxHeartbeats 400000 in
theorem cmp12 (h1 l1 e1 h2 l2 e2 : Int) (n1 n2 : Bool) (w : World) :
    Calls Try.prog 12 #[.agg #[.int .u64 h1, .int .u64 l1, .int .i32 e1, .bool n1], .agg #[.int .u64 h2, .int .u64 l2, .int .i32 e2, .bool n2]] w fun e' w' =>
      e' = .returned (.int .i64 (cmpD h1 l1 e1 n1 h2 l2 e2 n2)) ∧ Below w.heap.size w w' := by
  cases n1 <;> cases n2
  all_goals
    go_enter Try.func12, Try.ntmps12
    go_wp2_with (first | (go_at_call 13; refine (cmpAbs _ _ _ _ _ _ _ _ _).mono ?_; rintro e w' ⟨rfl, b⟩))
    go_ret
    refine ⟨rfl, ?_⟩
    first
      | (refine below_call ?_ b; repeat (first | exact Below.refl _ _ | apply below_alloc))
      | (repeat (first | exact Below.refl _ _ | apply below_alloc))

set_option maxRecDepth 100000 in
set_option maxHeartbeats 400000 in
theorem cmp10 (h1 l1 e1 h2 l2 e2 : Int) (n1 n2 : Bool) (w : World) :
    Calls Try.prog 10 #[.agg #[], .agg #[.int .u64 h1, .int .u64 l1, .int .i32 e1, .bool n1], .agg #[.int .u64 h2, .int .u64 l2, .int .i32 e2, .bool n2]] w fun e' w' =>
      e' = .returned (.int .i64 (cmpD h1 l1 e1 n1 h2 l2 e2 n2)) ∧ Below w.heap.size w w' := by
  go_enter Try.func10, Try.ntmps10
  go_wp2_with (first | (go_at_call 12; refine (cmp12 _ _ _ _ _ _ _ _ _).mono ?_; rintro e w' ⟨rfl, b⟩))
  go_ret
  refine ⟨rfl, ?_⟩
  refine below_call ?_ b
  repeat (first | exact Below.refl _ _ | apply below_alloc)

set_option maxRecDepth 100000 in
set_option maxHeartbeats 400000 in
theorem zzcmp (h1 l1 e1 h2 l2 e2 : Int) (n1 n2 : Bool) (w : World) :
    Calls Try.prog 7 #[.agg #[.int .u64 h1, .int .u64 l1, .int .i32 e1, .bool n1], .agg #[.int .u64 h2, .int .u64 l2, .int .i32 e2, .bool n2]] w fun e' w' =>
      e' = .returned (.int .i64 (cmpD h1 l1 e1 n1 h2 l2 e2 n2)) ∧ Below w.heap.size w w' := by
  go_enter Try.func7, Try.ntmps7
  go_wp2_with (first | (go_at_call 10; refine (cmp10 _ _ _ _ _ _ _ _ _).mono ?_; rintro e w' ⟨rfl, b⟩))
  go_ret
  refine ⟨rfl, ?_⟩
  refine below_call ?_ b
  repeat (first | exact Below.refl _ _ | apply below_alloc)

/-- the same, its answer named -/
theorem zzv (h1 l1 e1 h2 l2 e2 : Int) (n1 n2 : Bool) (v : Int) (hv : cmpD h1 l1 e1 n1 h2 l2 e2 n2 = v) (w : World) :
    Calls Try.prog 7 #[.agg #[.int .u64 h1, .int .u64 l1, .int .i32 e1, .bool n1], .agg #[.int .u64 h2, .int .u64 l2, .int .i32 e2, .bool n2]] w fun e' w' =>
      e' = .returned (.int .i64 v) ∧ Below w.heap.size w w' := by
  rw [← hv]; exact zzcmp h1 l1 e1 h2 l2 e2 n1 n2 w

/-- the fields are a Decimal36 as its package keeps them -/
def canon (h l e : Int) (n : Bool) : Bool :=
  if h = 0 then decide (l = 0 ∧ e = 0 ∧ n = false) else decide (100000000000000000 ≤ h ∧ h < 1000000000000000000 ∧ l < 1000000000000000000)

set_option maxRecDepth 100000 in
set_option maxHeartbeats 400000 in
theorem canon5 (h l e : Int) (n : Bool) (w : World) :
    Calls Try.prog 5 #[.int .u64 h, .int .u64 l, .int .i32 e, .bool n] w fun e' w' => e' = .returned (.bool (canon h l e n)) ∧ w' = w := by
  go_enter Try.func5, Try.ntmps5
  go_wp2
  all_goals
    go_ret
    refine ⟨congrArg (fun b => Ending.returned (.bool b)) ?_, rfl⟩
    unfold canon
    simp_all
  all_goals (intros; omega)

set_option maxRecDepth 100000 in
set_option maxHeartbeats 400000 in
theorem sign11 (h : Int) (n : Bool) (w : World) :
    Calls Try.prog 11 #[.int .u64 h, .bool n] w fun e' w' => e' = .returned (.int .i64 (if h = 0 then 0 else if n then -1 else 1)) ∧ w' = w := by
  by_cases c : h = 0
  · subst c
    go_enter Try.func11, Try.ntmps11
    go_wp2
    go_ret
    exact ⟨rfl, rfl⟩
  · have c' : (h == 0) = false := by simp [c]
    rw [if_neg c]
    cases n
    all_goals
      go_enter Try.func11, Try.ntmps11
      go_wp2
      go_ret
      exact ⟨rfl, rfl⟩

/-- one unit of the last digit above, as the program hands it back -/
def nextV (h l e : Int) : Value :=
  if l + 1 < 1000000000000000000 then .tuple #[.int .u64 h, .int .u64 (l + 1), .int .i32 e, .bool true] else if h + 1 < 1000000000000000000 then .tuple #[.int .u64 (h + 1), .int .u64 0, .int .i32 e, .bool true]
  else if e < 2147483647 then .tuple #[.int .u64 100000000000000000, .int .u64 0, .int .i32 (e + 1), .bool true] else .tuple #[.int .u64 0, .int .u64 0, .int .i32 0, .bool false]

set_option maxRecDepth 100000 in
set_option maxHeartbeats 400000 in
theorem next8 (h l e : Int) (h0 : 0 ≤ h) (hh : h < 1000000000000000000) (l0 : 0 ≤ l) (hl : l < 1000000000000000000) (e0 : -2147483648 ≤ e) (he : e ≤ 2147483647) (w : World) :
    Calls Try.prog 8 #[.int .u64 h, .int .u64 l, .int .i32 e] w fun e' w' => e' = .returned (nextV h l e) ∧ w' = w := by
  unfold nextV
  by_cases c1 : l + 1 < 1000000000000000000
  · rw [if_pos c1]
    go_enter Try.func8, Try.ntmps8
    go_wp2
    refine bodyPost_ret (by simp [results, Try.results8, go_sem]) rfl ⟨rfl, rfl⟩
  · rw [if_neg c1]
    by_cases c2 : h + 1 < 1000000000000000000
    · rw [if_pos c2]
      go_enter Try.func8, Try.ntmps8
      go_wp2
      refine bodyPost_ret (by simp [results, Try.results8, go_sem]) rfl ⟨rfl, rfl⟩
    · rw [if_neg c2]
      by_cases c3 : e < 2147483647
      · rw [if_pos c3]
        go_enter Try.func8, Try.ntmps8
        go_wp2
        refine bodyPost_ret (by simp [results, Try.results8, go_sem]) rfl ⟨rfl, rfl⟩
      · rw [if_neg c3]
        go_enter Try.func8, Try.ntmps8
        go_wp2
        refine bodyPost_ret (by simp [results, Try.results8, go_sem]) rfl ⟨rfl, rfl⟩

end Go.Proofs.Qxb6613633a
