import Derived.Test.Qxb6608816aFacts1
import Derived.WalkKit
import Derived.WalkLawsBesides
namespace Go.Proofs.Qxb6608816a
open Go.RowKit Ieee Fl

def Whole (c n : Nat) : Prop := n ≤ 65536 ∧ floatToIntVal .f32 c .i32 = some (n : Int) ∧ rg single c < single.infRung ∧ sv single c = (n : Int) * 2 ^ 149

theorem pick (x : Nat → Nat) (h : ∀ j, j < 256 → ∃ n, Whole (x j) n) : ∃ n : Nat → Nat, ∀ j, j < 256 → Whole (x j) (n j) :=
  ⟨fun j => if hj : j < 256 then (h j hj).choose else 0, fun j hj => by simp only [hj, dif_pos]; exact (h j hj).choose_spec⟩

/-- what least gives: 0 where nothing is counted, else the rule at the greatest bucket whose tail exceeds the limit -/
def Got (n : Nat → Nat) (iv : Int) (thr : Nat) (r : Int) : Prop :=
  (psum n 256 = 0 ∧ r = 0) ∨ (psum n 256 ≠ 0 ∧ ∃ L bb, floatBits .mul .f32 (floatOfInt .f32 (psum n 256 : Nat)) 1008981770 = some L ∧ bb < 256 ∧
    (FloatKind.f32.format.order (floatOfInt .f32 ((psum n 256 : Nat) - (psum n bb : Nat) : Int)) L == some .gt) = true ∧
    (∀ b, bb < b → b < 256 → (FloatKind.f32.format.order (floatOfInt .f32 ((psum n 256 : Nat) - (psum n b : Nat) : Int)) L == some .gt) = false) ∧
    RuleIs (((bb : Int) + 1) * iv) thr r)

theorem rule_at (iv : Int) (thr : Nat) (h1 : 1 ≤ iv) (h2 : iv ≤ 1099511627776) (ht : (double.order thr 4562254508917369340 == some .gt || double.order thr 4562254508917369340 == some .eq) = true) (b : Nat) (hb : b < 256) :
    0 ≤ ((b : Int) + 1) * iv ∧ ((b : Int) + 1) * iv ≤ 281474976710656 ∧ ∃ r, RuleIs (((b : Int) + 1) * iv) thr r := by
  have a : 0 ≤ ((b : Int) + 1) * iv := Int.mul_nonneg (by omega) (by omega)
  have c : ((b : Int) + 1) * iv ≤ 256 * 1099511627776 := Int.mul_le_mul (by omega) h2 (by omega) (by omega)
  refine ⟨a, by omega, ?_⟩
  obtain ⟨m, hm⟩ : ∃ m : Nat, (m : Int) = ((b : Int) + 1) * iv := ⟨(((b : Int) + 1) * iv).toNat, by omega⟩
  rw [← hm] at c ⊢
  exact rule_is m (by omega) thr ht

theorem got_any (x n : Nat → Nat) (iv : Int) (thr : Nat) (hn : ∀ j, j < 256 → Whole (x j) (n j)) (h1 : 1 ≤ iv) (h2 : iv ≤ 1099511627776)
    (ht : (double.order thr 4562254508917369340 == some .gt || double.order thr 4562254508917369340 == some .eq) = true) : ∃ r, Got n iv thr r := by
  have hb := psum_le n (fun k hk => (hn k hk).1) 256 (by omega)
  by_cases h0 : psum n 256 = 0
  · exact ⟨0, Or.inl ⟨h0, rfl⟩⟩
  · obtain ⟨L, hL, hgt⟩ := lim_whole (psum n 256) (by omega)
    obtain ⟨bb, b1, b2, b3⟩ := greatest (fun b => FloatKind.f32.format.order (floatOfInt .f32 ((psum n 256 : Nat) - (psum n b : Nat) : Int)) L == some .gt) (by
      have := hgt (by omega)
      show (FloatKind.f32.format.order (floatOfInt .f32 ((psum n 256 : Nat) - ((0 : Nat) : Int) : Int)) L == some .gt) = true
      rw [show ((psum n 256 : Nat) - ((0 : Nat) : Int) : Int) = (psum n 256 : Nat) by omega]
      exact this) 256 (by omega)
    obtain ⟨_, _, r, hr⟩ := rule_at iv thr h1 h2 ht bb b1
    exact ⟨r, Or.inr ⟨h0, L, bb, hL, b1, b2, b3, hr⟩⟩

theorem ofZero : floatOfInt .f32 0 = 0 := by decide +kernel

theorem zz_any (cs : Array Value) (x n : Nat → Nat) (iv : Int) (thr : Nat) (r : Int) (hsz : Hid (cs.size = 256)) (hx : Hid (∀ k, k < 256 → cs[k]? = some (.float .f32 (x k))))
    (HN : Hid (∀ j, j < 256 → Whole (x j) (n j))) (HR : Hid (Got n iv thr r)) (h1 : 1 ≤ iv) (h2 : iv ≤ 1099511627776) (w : World) :
    Calls Try.prog 5 #[.agg cs, .int .i64 iv, .float .f64 thr] w fun e w' => e = .returned (.int .i64 r) ∧ w' = (w.alloc (.cells cs 23)).alloc (.cells cs 31) := by
  have hb := psum_le n (fun k hk => (HN.out k hk).1)
  have hb256 := hb 256 (by omega)
  have hT0 : floatOfInt .f32 (psum n 0 : Nat) = 0 := ofZero
  have hT : ∀ k, k < 256 → floatBits .add .f32 (floatOfInt .f32 (psum n k : Nat)) (x k) = some (floatOfInt .f32 (psum n (k + 1) : Nat)) := fun k hk =>
    sum_whole (psum n k) (n k) (x k) (by have := hb (k + 1) (by omega); simp only [psum] at this; omega) (HN.out k hk).2.2.1 (HN.out k hk).2.2.2
  have hpos := pos_whole (psum n 256) (by omega)
  rcases HR with ⟨h0, rfl⟩ | ⟨h0, L, bb, hL, b1, b2, b3, hr⟩
  · exact zz_zero cs x (fun k => floatOfInt .f32 (psum n k : Nat)) hsz hx hT0 hT (hpos.trans (by rw [h0]; rfl)) iv thr w
  · have e : ∀ b, b ≤ 256 → ((psum n 256 : Nat) - (psum n b : Nat) : Int) = ((psum n 256 - psum n b : Nat) : Int) := fun b hb => by
      have := psum_mono n (256 - b) b
      rw [show b + (256 - b) = 256 by omega] at this
      omega
    have a : 0 ≤ ((bb : Int) + 1) * iv := Int.mul_nonneg (by omega) (by omega)
    have c : ((bb : Int) + 1) * iv ≤ 256 * 1099511627776 := Int.mul_le_mul (by omega) h2 (by omega) (by omega)
    refine zz_pos cs x (fun k => floatOfInt .f32 (psum n k : Nat)) (fun b => floatOfInt .f32 ((psum n 256 : Nat) - (psum n b : Nat) : Int)) L bb hsz hx hT0 hT (hpos.trans (by rw [decide_eq_true]; omega)) ?_ ?_ hL b1 b2 b3 iv thr r a (by omega) hr w
    · show floatOfInt .f32 ((psum n 256 : Nat) - (psum n 256 : Nat) : Int) = 0
      rw [Int.sub_self]; exact ofZero
    · intro b hbb
      show floatBits .add .f32 (floatOfInt .f32 ((psum n 256 : Nat) - (psum n (b + 1) : Nat) : Int)) (x b) = some (floatOfInt .f32 ((psum n 256 : Nat) - (psum n b : Nat) : Int))
      rw [e b (by omega), e (b + 1) (by omega)]
      have m1 := psum_mono n (256 - (b + 1)) (b + 1)
      rw [show b + 1 + (256 - (b + 1)) = 256 by omega] at m1
      have m2 : psum n (b + 1) = psum n b + n b := rfl
      have := sum_whole (psum n 256 - psum n (b + 1)) (n b) (x b) (by omega) (HN.out b hbb).2.2.1 (HN.out b hbb).2.2.2
      rw [show psum n 256 - psum n (b + 1) + n b = psum n 256 - psum n b by omega] at this
      exact this

theorem old_cell (w : World) (cs : Array Value) (A B D : Obj) (x : Nat → Nat) (hx : ∀ k, k < 256 → cs[k]? = some (.float .f32 (x k))) :
    ∀ k, k < 256 → ((((w.alloc (.cells cs 23)).alloc A).alloc B).alloc D).cell? ⟨w.heap.size, k, none⟩ = some (.float .f32 (x k)) := by
  intro k hk
  rw [cell_of_row _ _ k cs 23 (0, 0) (by
    rw [heap_alloc_old _ _ (by simp; omega), heap_alloc_old _ _ (by simp; omega), heap_alloc_old _ _ (by simp), heap_alloc_new])]
  exact hx k hk

set_option maxRecDepth 100000 in
set_option maxHeartbeats 800000 in
theorem law1 (cs : Array Value) (x : Nat → Nat) (hsz : Hid (cs.size = 256)) (hx : Hid (∀ k, k < 256 → cs[k]? = some (.float .f32 (x k))))
    (iv : Int) (thr : Nat) (w : World) (h1 : 1 ≤ iv) (h2 : iv ≤ 1099511627776)
    (ht : (FloatKind.f64.format.order thr 4562254508917369340 == some .gt || FloatKind.f64.format.order thr 4562254508917369340 == some .eq) = true) :
    Calls Try.prog 3 #[.agg cs, .int .i64 iv, .float .f64 thr] w fun e w' => e = .returned (.bool true) ∧ Grown w w' := by
  have hg1 := heap_alloc_new w (.cells cs 23)
  have hc : Hid (∀ k, k < 256 → (w.alloc (.cells cs 23)).cell? ⟨w.heap.size, k, none⟩ = some (.float .f32 (x k))) := fun k hk => by
    rw [cell_of_row _ _ k cs 23 (0, 0) hg1]; exact hx.out k hk
  have HT : Hid ((double.order thr 4562254508917369340 == some .gt || double.order thr 4562254508917369340 == some .eq) = true) := ht
  go_enter Try.func3, Try.ntmps3
  go_wp2
  clear ht
  go_loop [7] (fun i => ∃ k : Nat, k ≤ 256 ∧ i = .int .i64 k ∧ ∀ j, j < k → ∃ n, Whole (x j) n) (fun i => 256 - (intOf i).toNat)
  case atStart => exact ⟨0, by omega, rfl, fun j hj => by omega⟩
  case round =>
    obtain ⟨k, hk, rfl, hall0⟩ := hrel
    have hall : Hid (∀ j, j < k → ∃ n, Whole (x j) n) := hall0
    clear hall0
    by_cases hlt : k < 256
    · have hcell := hc.out k hlt
      cases q1 : (FloatKind.f32.format.order (x k) 0 == some .gt || FloatKind.f32.format.order (x k) 0 == some .eq) with
      | false =>
        go_wp2
        go_ret
        exact ⟨rfl, (Grown.refl _).alloc _ _⟩
      | true =>
        cases q2 : (FloatKind.f32.format.order (x k) 1199570944 == some .lt || FloatKind.f32.format.order (x k) 1199570944 == some .eq) with
        | false =>
          go_wp2
          go_ret
          exact ⟨rfl, (Grown.refl _).alloc _ _⟩
        | true =>
          obtain ⟨n, n1, n2, n3, n4⟩ := whole_of (x k) q1 q2
          have o1 := fun w => run_convert_float_int (P := Try.prog) w 22 21 .f32 .i32 (x k) n (by rw [Try.underlying22]; rfl) Try.underlying21 n2
          cases q3 : (FloatKind.f32.format.order (floatOfInt .f32 n) (x k) == some .eq) with
          | false =>
            have q3' : (FloatKind.f32.format.order (floatOfInt .f32 n) (x k) != some .eq) = true := by simp [bne, q3]
            have HN : Hid (floatToIntVal .f32 (x k) .i32 = some (n : Int)) := n2
            clear n2 n4 q3
            go_wp2
            go_ret
            exact ⟨rfl, (Grown.refl _).alloc _ _⟩
          | true =>
            have q3' : (FloatKind.f32.format.order (floatOfInt .f32 n) (x k) != some .eq) = false := by simp [bne, q3]
            have HN : Hid (Whole (x k) n) := ⟨n1, n2, n3, n4 q3⟩
            clear n2 n4 q3 n3
            go_wp2
            go_round
            case rel =>
              refine ⟨k + 1, by omega, by go_num, fun j hj => ?_⟩
              by_cases e : j = k
              · rw [e]; exact ⟨n, HN.out⟩
              · exact hall.out j (by omega)
            case measure => simp [intOf]; omega
    · obtain rfl : k = 256 := by omega
      clear hk hlt
      obtain ⟨n, hn⟩ := pick x hall.out
      clear hall
      have HN : Hid (∀ j, j < 256 → Whole (x j) (n j)) := hn
      clear hn
      obtain ⟨r, HR⟩ : ∃ r, Hid (Got n iv thr r) := got_any x n iv thr HN.out h1 h2 HT.out
      go_wp2_with (first | (refine wpList_load_row rfl 23 _ rfl w.heap.size rfl 23 cs (0, 0) _ hg1 Try.underlying23 rfl (info23 cs hsz.out) ?_) | (go_at_call 5; refine (zz_any cs x n iv thr r hsz hx HN HR h1 h2 _).mono ?_; rintro e w' ⟨rfl, rfl⟩) | (refine wpList_alloc26 rfl rfl ?_))
      go_loopw [11, 12] (fun t i wr => ∃ (k : Nat) (C : Array Value), k ≤ 256 ∧ i = .int .i64 k ∧ t = .int .i64 (psum n k : Nat) ∧ C.size = 256 ∧ (∀ j, j < 256 → C[j]? = some (.int .i64 (if j < k then (n j : Int) else 0))) ∧ wr = (((w.alloc (Obj.cells cs 23)).alloc (Obj.cells cs 23)).alloc (Obj.cells cs 31)).alloc (Obj.cells C 26)) (fun _ i _ => 256 - (intOf i).toNat)
      case atStart => exact ⟨0, zeros (.int .i64 0), by omega, rfl, rfl, by simp [zeros], fun j hj => by simp [zeros, hj], rfl⟩
      case round =>
        obtain ⟨k, C, hk, rfl, rfl, hC1, hC2, rfl⟩ := hrel
        have HC2 : Hid (∀ j, j < 256 → C[j]? = some (.int .i64 (if j < k then (n j : Int) else 0))) := hC2
        have HC1 : Hid (C.size = 256) := hC1
        have hps : psum n k ≤ 16777216 := by have := psum_le n (fun k hk => (HN.out k hk).1) k hk; omega
        clear hC1 hC2
        by_cases hlt : k < 256
        · have hcell : ((((w.alloc (Obj.cells cs 23)).alloc (Obj.cells cs 23)).alloc (Obj.cells cs 31)).alloc (Obj.cells C 26)).cell? ⟨w.heap.size, k, none⟩ = some (.float .f32 (x k)) := old_cell w cs _ _ _ x hx.out k hlt
          have hn := HN.out k hlt
          have o1 := fun w => run_convert_float_int (P := Try.prog) w 22 21 .f32 .i32 (x k) (n k) (by rw [Try.underlying22]; rfl) Try.underlying21 hn.2.1
          have hn1 : n k ≤ 65536 := hn.1
          have hCk : C[k]? = some (.int .i64 0) := by rw [HC2.out k hlt]; simp
          have hCs : k < C.size := by rw [HC1.out]; exact hlt
          clear hn
          go_wp2_with (simp only [o1])
          go_roundw
          case rel =>
            refine ⟨k + 1, C.setIfInBounds k (.int .i64 (n k)), by omega, by go_num, by simp only [psum]; go_num, by simp [HC1.out], fun j hj => ?_, rfl⟩
            by_cases e : j = k
            · subst e; simp [hCs]
            · rw [Array.getElem?_setIfInBounds_ne (Ne.symm e), HC2.out j hj]
              by_cases e2 : j < k
              · rw [if_pos e2, if_pos (by omega)]
              · rw [if_neg e2, if_neg (by omega)]
          case measure => simp [intOf]; omega
        · obtain rfl : k = 256 := by omega
          have hCv : Hid (∀ j, j < 256 → C[j]? = some (.int .i64 (n j))) := fun j hj => by rw [HC2.out j hj, if_pos hj]
          clear HC2
          rcases HR.out with ⟨z0, rfl⟩ | ⟨z0, L, bb, hL, b1, b2, b3, hr⟩
          · have z1 : (((psum n 256 : Nat) : Int) == 0) = true := by simp [z0]
            have Z0 : Hid (psum n 256 = 0) := z0
            clear z0
            go_wp2
            go_ret
            refine ⟨?_, ?_⟩
            · rfl
            · repeat (first | exact Grown.refl _ | apply Grown.alloc)
          · have z1 : (((psum n 256 : Nat) : Int) == 0) = false := by simp [z0]
            have Z0 : Hid (psum n 256 ≠ 0) := z0
            have HL : Hid (floatBits .mul .f32 (floatOfInt .f32 (psum n 256 : Nat)) 1008981770 = some L) := hL
            have HB2 : Hid ((FloatKind.f32.format.order (floatOfInt .f32 ((psum n 256 : Nat) - (psum n bb : Nat) : Int)) L == some .gt) = true) := b2
            have HB3 : Hid (∀ b, bb < b → b < 256 → (FloatKind.f32.format.order (floatOfInt .f32 ((psum n 256 : Nat) - (psum n b : Nat) : Int)) L == some .gt) = false) := b3
            have HRu : Hid (RuleIs (((bb : Int) + 1) * iv) thr r) := hr
            have o2 := fun t w => run_float_arith (P := Try.prog) w .mul t .f32 _ _ _ hL
            clear z0 hL b2 b3 hr
            go_wp2_with (simp only [o2])
            clear o2
            go_loop [14, 15, 16] (fun t u i => ∃ (k : Nat) (m : Int), k ≤ 256 ∧ i = .int .i64 k ∧ u = .int .i64 (psum n k : Nat) ∧ t = .int .i64 m ∧ (bb < k → m = bb)) (fun _ _ i => 256 - (intOf i).toNat)
            case atStart => exact ⟨0, -1, by omega, rfl, rfl, rfl, fun h => by omega⟩
            case round =>
              obtain ⟨k, m, hk, rfl, rfl, rfl, hm0⟩ := hrel
              have hm : Hid (bb < k → m = bb) := hm0
              clear hm0
              have hpk : psum n k ≤ 16777216 := by have := psum_le n (fun k hk => (HN.out k hk).1) k hk; omega
              by_cases hlt : k < 256
              · have hCk : C[k]? = some (.int .i64 (n k)) := hCv.out k hlt
                have hn1 : n k ≤ 65536 := (HN.out k hlt).1
                cases q : (FloatKind.f32.format.order (floatOfInt .f32 ((psum n 256 : Nat) - (psum n k : Nat) : Int)) L == some .gt) with
                | true =>
                  have Q : Hid (bb < k → False) := fun h => by rw [HB3.out k h hlt] at q; cases q
                  go_wp2
                  go_round
                  case rel => exact ⟨k + 1, k, by omega, by go_num, by simp only [psum]; go_num, rfl, fun h => by have hq : ¬ bb < k := Q.out; omega⟩
                  case measure => simp [intOf]; omega
                | false =>
                  have Q : Hid (bb ≠ k) := fun h => by subst h; rw [HB2.out] at q; cases q
                  go_wp2
                  go_round
                  case rel => exact ⟨k + 1, m, by omega, by go_num, by simp only [psum]; go_num, rfl, fun h => hm.out (by have := Q.out; omega)⟩
                  case measure => simp [intOf]; omega
              · obtain rfl : k = 256 := by omega
                obtain rfl : m = (bb : Int) := hm.out b1
                have a1 : 0 ≤ ((bb : Int) + 1) * iv := Int.mul_nonneg (by omega) (by omega)
                have a2 : ((bb : Int) + 1) * iv ≤ 281474976710656 := by
                  have : ((bb : Int) + 1) * iv ≤ 256 * 1099511627776 := Int.mul_le_mul (by omega) h2 (by omega) (by omega)
                  omega
                go_wp2_with (go_at_call 6; refine (rule_walk bb iv thr r (by omega) (by omega) a1 a2 HRu.out _).mono ?_; rintro e w' ⟨rfl, rfl⟩)
                go_ret
                refine ⟨by simp, ?_⟩
                repeat (first | exact Grown.refl _ | apply Grown.alloc)
end Go.Proofs.Qxb6608816a
