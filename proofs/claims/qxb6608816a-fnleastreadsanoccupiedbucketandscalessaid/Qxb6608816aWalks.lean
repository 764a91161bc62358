/-
  The walks of zzRule, least and ZZleast.
-/
import Derived.Test.Qxb6608816aLaws
import Derived.WalkKit
import Derived.WalkLawsBesides
import Derived.Laws.FloatArith
namespace Go.Proofs.Qxb6608816a
open Go.RowKit

/-- what the rule's float expression gives at (b+1)*interval = n -/
def RuleIs (n : Int) (thr : Nat) (r : Int) : Prop :=
  ∃ m p q, floatBits .mul .f64 4608983858650965606 (floatOfInt .f64 n) = some m ∧ floatBits .mul .f64 thr 4612367379483415830 = some p ∧
    floatBits .quo .f64 m p = some q ∧ floatToIntVal .f64 q .i64 = some r

set_option maxHeartbeats 400000 in
theorem rule_walk (b iv : Int) (thr : Nat) (r : Int) (hb : 0 ≤ b) (hb' : b ≤ 255) (n1 : 0 ≤ (b + 1) * iv) (n2 : (b + 1) * iv ≤ 281474976710656)
    (h : RuleIs ((b + 1) * iv) thr r) (w : World) :
    Calls Try.prog 6 #[.int .i64 b, .int .i64 iv, .float .f64 thr] w fun e w' => e = .returned (.int .i64 r) ∧ w' = w := by
  obtain ⟨m, p, q, h1, h2, h3, h4⟩ := h
  have o1 := fun t w => run_float_arith (P := Try.prog) w .mul t .f64 _ _ m h1
  have o2 := fun t w => run_float_arith (P := Try.prog) w .mul t .f64 _ _ p h2
  have o3 := fun t w => run_float_arith (P := Try.prog) w .quo t .f64 _ _ q h3
  have o4 := fun w => run_convert_float_int (P := Try.prog) w 24 2 .f64 .i64 q r (by rw [Try.underlying24]; rfl) Try.underlying2 h4
  clear h1 h2 h3 h4
  go_enter Try.func6, Try.ntmps6
  go_wp2_with (simp only [o1, o2, o3, o4])
  go_ret
  exact ⟨rfl, rfl⟩

theorem info23 (cs : Array Value) (h : cs.size = 256) : (Try.prog.info? 23).map (·.size) = some cs.size := by rw [h]; kernel_rfl

set_option maxRecDepth 100000 in
set_option maxHeartbeats 400000 in
theorem least_zero (cs : Array Value) (x T : Nat → Nat) (hsz : Hid (cs.size = 256)) (hx : Hid (∀ k, k < 256 → cs[k]? = some (.float .f32 (x k))))
    (hT0 : Hid (T 0 = 0)) (hT : Hid (∀ k, k < 256 → floatBits .add .f32 (T k) (x k) = some (T (k + 1))))
    (hpos : Hid ((FloatKind.f32.format.order (T 256) 0 == some .gt) = false))
    (iv : Int) (thr : Nat) (g : Nat) (fr : Nat × Nat) (w : World) (hg : w.heap[g]? = some (.cells cs 31 fr)) :
    Calls Try.prog 7 #[.pointer (some ⟨g, 0, none⟩), .int .i64 iv, .float .f64 thr] w fun e w' => e = .returned (.int .i64 0) ∧ w' = w := by
  go_enter Try.func7, Try.ntmps7
  go_wp2_with (first | (refine wpList_load_row rfl 23 _ rfl g rfl 31 cs fr _ hg Try.underlying23 rfl (info23 cs hsz.out) ?_))
  go_loop [7, 16] (fun t i => ∃ k : Nat, k ≤ 256 ∧ i = .int .i64 k ∧ t = .float .f32 (T k)) (fun _ i => 256 - (intOf i).toNat)
  case atStart => exact ⟨0, by omega, rfl, by rw [hT0.out]⟩
  case round =>
    obtain ⟨k, hk, rfl, rfl⟩ := hrel
    by_cases hlt : k < 256
    · have o1 := fun t w => run_float_arith (P := Try.prog) w .add t .f32 _ _ _ (hT.out k hlt)
      have hv := hx.out k hlt
      go_wp2_with (first | (refine wpList_index23 rfl _ _ rfl cs rfl k rfl hlt _ hv ?_) | simp only [o1])
      go_round
      case rel => exact ⟨k + 1, by omega, by go_num, rfl⟩
      case measure => simp [intOf]; omega
    · obtain rfl : k = 256 := by omega
      go_wp2
      refine wp_loop_once ?_
      have hp := hpos.out
      go_wp2
      go_ret
      exact ⟨rfl, rfl⟩

set_option maxRecDepth 100000 in
set_option maxHeartbeats 800000 in
theorem least_pos (cs : Array Value) (x T A : Nat → Nat) (L bb : Nat) (hsz : Hid (cs.size = 256)) (hx : Hid (∀ k, k < 256 → cs[k]? = some (.float .f32 (x k))))
    (hT0 : Hid (T 0 = 0)) (hT : Hid (∀ k, k < 256 → floatBits .add .f32 (T k) (x k) = some (T (k + 1))))
    (hpos : Hid ((FloatKind.f32.format.order (T 256) 0 == some .gt) = true))
    (hA0 : Hid (A 256 = 0)) (hA : Hid (∀ b, b < 256 → floatBits .add .f32 (A (b + 1)) (x b) = some (A b)))
    (hL : Hid (floatBits .mul .f32 (T 256) 1008981770 = some L))
    (hbb : bb < 256) (hhit : Hid ((FloatKind.f32.format.order (A bb) L == some .gt) = true))
    (hmiss : Hid (∀ b, bb < b → b < 256 → (FloatKind.f32.format.order (A b) L == some .gt) = false))
    (iv : Int) (thr : Nat) (r : Int) (n1 : 0 ≤ ((bb : Int) + 1) * iv) (n2 : ((bb : Int) + 1) * iv ≤ 281474976710656) (hr : Hid (RuleIs (((bb : Int) + 1) * iv) thr r))
    (g : Nat) (fr : Nat × Nat) (w : World) (hg : w.heap[g]? = some (.cells cs 31 fr)) (hc : Hid (∀ k, k < 256 → w.cell? ⟨g, k, none⟩ = some (.float .f32 (x k)))) :
    Calls Try.prog 7 #[.pointer (some ⟨g, 0, none⟩), .int .i64 iv, .float .f64 thr] w fun e w' => e = .returned (.int .i64 r) ∧ w' = w := by
  go_enter Try.func7, Try.ntmps7
  go_wp2_with (first | (refine wpList_load_row rfl 23 _ rfl g rfl 31 cs fr _ hg Try.underlying23 rfl (info23 cs hsz.out) ?_))
  clear hg
  go_loop [7, 16] (fun t i => ∃ k : Nat, k ≤ 256 ∧ i = .int .i64 k ∧ t = .float .f32 (T k)) (fun _ i => 256 - (intOf i).toNat)
  case atStart => exact ⟨0, by omega, rfl, by rw [hT0.out]⟩
  case round =>
    obtain ⟨k, hk, rfl, rfl⟩ := hrel
    by_cases hlt : k < 256
    · have o1 := fun t w => run_float_arith (P := Try.prog) w .add t .f32 _ _ _ (hT.out k hlt)
      have hv := hx.out k hlt
      go_wp2_with (first | (refine wpList_index23 rfl _ _ rfl cs rfl k rfl hlt _ hv ?_) | simp only [o1])
      go_round
      case rel => exact ⟨k + 1, by omega, by go_num, rfl⟩
      case measure => simp [intOf]; omega
    · obtain rfl : k = 256 := by omega
      go_wp2
      go_loop [10, 11] (fun t i => ∃ j : Nat, bb < j ∧ j ≤ 256 ∧ i = .int .i64 ((j : Int) - 1) ∧ t = .float .f32 (A j)) (fun _ i => (intOf i + 1).toNat)
      case atStart => exact ⟨256, by omega, by omega, rfl, by rw [hA0.out]⟩
      case round =>
        obtain ⟨j, hj1, hj2, rfl, rfl⟩ := hrel
        obtain ⟨b, rfl⟩ : ∃ b, j = b + 1 := ⟨j - 1, by omega⟩
        have hp := hpos.out
        have o1 := fun t w => run_float_arith (P := Try.prog) w .add t .f32 _ _ _ (hA.out b (by omega))
        have o2 := fun t w => run_float_arith (P := Try.prog) w .mul t .f32 _ _ _ hL.out
        have hcell := hc.out b (by omega)
        rw [show (((b + 1 : Nat) : Int) - 1) = (b : Int) by omega]
        by_cases hb : bb < b
        · have hm := hmiss.out b hb (by omega)
          go_wp2_with (first | simp only [o1, o2])
          go_round
          case rel => exact ⟨b, by omega, by omega, by go_num, rfl⟩
          case measure => simp [intOf]
        · obtain rfl : b = bb := by omega
          have hm := hhit.out
          obtain ⟨m, p, q, h1, h2, h3, h4⟩ := hr.out
          have r1 := fun t w => run_float_arith (P := Try.prog) w .mul t .f64 _ _ m h1
          have r2 := fun t w => run_float_arith (P := Try.prog) w .mul t .f64 _ _ p h2
          have r3 := fun t w => run_float_arith (P := Try.prog) w .quo t .f64 _ _ q h3
          have r4 := fun w => run_convert_float_int (P := Try.prog) w 24 2 .f64 .i64 q r (by rw [Try.underlying24]; rfl) Try.underlying2 h4
          clear h1 h2 h3 h4
          go_wp2_with (first | simp only [o1, o2] | simp only [r1, r2, r3, r4])
          go_ret
          exact ⟨rfl, rfl⟩

theorem cell_new (w : World) (A B : Obj) (cs : Array Value) (x : Nat → Nat) (hx : ∀ k, k < 256 → cs[k]? = some (.float .f32 (x k))) (hB : B = .cells cs 31) :
    ∀ k, k < 256 → ((w.alloc A).alloc B).cell? ⟨w.heap.size + 1, k, none⟩ = some (.float .f32 (x k)) := by
  intro k hk
  rw [cell_of_row ((w.alloc A).alloc B) (w.heap.size + 1) k cs 31 (0, 0) (by rw [heap_alloc2_new, hB])]
  exact hx k hk

set_option maxRecDepth 100000 in
set_option maxHeartbeats 400000 in
theorem zz_zero (cs : Array Value) (x T : Nat → Nat) (hsz : Hid (cs.size = 256)) (hx : Hid (∀ k, k < 256 → cs[k]? = some (.float .f32 (x k))))
    (hT0 : Hid (T 0 = 0)) (hT : Hid (∀ k, k < 256 → floatBits .add .f32 (T k) (x k) = some (T (k + 1))))
    (hpos : Hid ((FloatKind.f32.format.order (T 256) 0 == some .gt) = false)) (iv : Int) (thr : Nat) (w : World) :
    Calls Try.prog 5 #[.agg cs, .int .i64 iv, .float .f64 thr] w fun e w' => e = .returned (.int .i64 0) ∧ w' = (w.alloc (.cells cs 23)).alloc (.cells cs 31) := by
  have hg1 := heap_alloc_new w (.cells cs 23)
  go_enter Try.func5, Try.ntmps5
  go_wp2_with (first | (refine wpList_load_row rfl 23 _ rfl w.heap.size rfl 23 cs (0, 0) _ hg1 Try.underlying23 rfl (info23 cs hsz.out) ?_) | (refine wpList_build31 rfl _ rfl cs rfl hsz.out ?_) | (go_at_call 7; refine (least_zero cs x T hsz hx hT0 hT hpos iv thr (w.heap.size + 1) (0, 0) _ (heap_alloc2_new _ _ _)).mono ?_; rintro e w' ⟨rfl, rfl⟩))
  go_ret
  exact ⟨rfl, rfl⟩

set_option maxRecDepth 100000 in
set_option maxHeartbeats 400000 in
theorem zz_pos (cs : Array Value) (x T A : Nat → Nat) (L bb : Nat) (hsz : Hid (cs.size = 256)) (hx : Hid (∀ k, k < 256 → cs[k]? = some (.float .f32 (x k))))
    (hT0 : Hid (T 0 = 0)) (hT : Hid (∀ k, k < 256 → floatBits .add .f32 (T k) (x k) = some (T (k + 1))))
    (hpos : Hid ((FloatKind.f32.format.order (T 256) 0 == some .gt) = true))
    (hA0 : Hid (A 256 = 0)) (hA : Hid (∀ b, b < 256 → floatBits .add .f32 (A (b + 1)) (x b) = some (A b)))
    (hL : Hid (floatBits .mul .f32 (T 256) 1008981770 = some L))
    (hbb : bb < 256) (hhit : Hid ((FloatKind.f32.format.order (A bb) L == some .gt) = true))
    (hmiss : Hid (∀ b, bb < b → b < 256 → (FloatKind.f32.format.order (A b) L == some .gt) = false))
    (iv : Int) (thr : Nat) (r : Int) (n1 : 0 ≤ ((bb : Int) + 1) * iv) (n2 : ((bb : Int) + 1) * iv ≤ 281474976710656) (hr : Hid (RuleIs (((bb : Int) + 1) * iv) thr r)) (w : World) :
    Calls Try.prog 5 #[.agg cs, .int .i64 iv, .float .f64 thr] w fun e w' => e = .returned (.int .i64 r) ∧ w' = (w.alloc (.cells cs 23)).alloc (.cells cs 31) := by
  have hg1 := heap_alloc_new w (.cells cs 23)
  have hc : Hid (∀ k, k < 256 → ((w.alloc (.cells cs 23)).alloc (.cells cs 31)).cell? ⟨w.heap.size + 1, k, none⟩ = some (.float .f32 (x k))) := cell_new w (.cells cs 23) (.cells cs 31) cs x hx.out rfl
  go_enter Try.func5, Try.ntmps5
  go_wp2_with (first | (refine wpList_load_row rfl 23 _ rfl w.heap.size rfl 23 cs (0, 0) _ hg1 Try.underlying23 rfl (info23 cs hsz.out) ?_) | (refine wpList_build31 rfl _ rfl cs rfl hsz.out ?_) | (go_at_call 7; refine (least_pos cs x T A L bb hsz hx hT0 hT hpos hA0 hA hL hbb hhit hmiss iv thr r n1 n2 hr (w.heap.size + 1) (0, 0) _ (heap_alloc2_new _ _ _) hc).mono ?_; rintro e w' ⟨rfl, rfl⟩))
  go_ret
  exact ⟨rfl, rfl⟩
end Go.Proofs.Qxb6608816a
