/-
  The walk of FnLeastReadsAnOccupiedBucketAndScales.
-/
import Derived.Test.Qxb6608816aFacts3
import Derived.Test.Qxb6608816aLaw1
import Derived.WalkKit
import Derived.WalkLawsBesides
namespace Go.Proofs.Qxb6608816a
open Go.RowKit Ieee Fl

theorem run_store_float (P : Program) (w : World) (a : Addr) (m : Mode) (k : FloatKind) (b : Nat) : (store a (.float k b) m).run P w = stored P w a (.float k b) m := run_store P w a _ m rfl
attribute [local go_sem] run_store_float

theorem psum_all (v : Nat → Nat) : ∀ k, psum v k = 0 → ∀ j, j < k → v j = 0
  | 0, _, j, hj => by omega
  | k + 1, h, j, hj => by
    simp only [psum] at h
    by_cases e : j = k
    · subst e; omega
    · exact psum_all v k (by omega) j (by omega)

theorem nice0 : Nice 249 0 := ⟨c0.2.1, Or.inl c0.2.2, by unfold mg; rw [c0.2.2]; exact Nat.zero_le _⟩
theorem nice_up (c : Nat) (h : Nice 249 c) : Nice 250 c := ⟨h.1, h.2.1, Nat.le_trans h.2.2 (by omega)⟩

theorem pick_twice (x : Nat → Nat) (h : ∀ j, Nice 249 (x j)) : ∃ y : Nat → Nat, ∀ j, floatBits .mul .f32 (x j) 1073741824 = some (y j) ∧ Nice 250 (y j) ∧ mg (y j) = 2 * mg (x j) :=
  ⟨fun j => (twice_of (x j) (h j)).choose, fun j => (twice_of (x j) (h j)).choose_spec⟩

theorem row_first (w : World) (A B : Obj) : ((w.alloc A).alloc B).heap[w.heap.size]? = some A := heap_alloc2_old w A B
theorem row_second (w : World) (A B C D : Obj) : ((((w.alloc A).alloc B).alloc C).alloc D).heap[w.heap.size + 1]? = some B := by
  rw [heap_alloc_old _ _ (by simp), heap_alloc_old _ _ (by simp), heap_alloc2_new]
theorem row_deep (w : World) (A B C D E F : Obj) : ((((((w.alloc A).alloc B).alloc C).alloc D).alloc E).alloc F).heap[w.heap.size]? = some A := by
  rw [heap_alloc_old _ _ (by simp; omega), heap_alloc_old _ _ (by simp; omega), heap_alloc_old _ _ (by simp; omega), heap_alloc_old _ _ (by simp; omega), heap_alloc2_old]

set_option maxRecDepth 100000 in
set_option maxHeartbeats 800000 in
theorem law2 (cs : Array Value) (x : Nat → Nat) (hsz : Hid (cs.size = 256)) (hx : Hid (∀ k, k < 256 → cs[k]? = some (.float .f32 (x k)))) (hx0 : Hid (∀ j, 256 ≤ j → x j = 0))
    (iv : Int) (thr : Nat) (w : World) (h1 : 1 ≤ iv) (h2 : iv ≤ 1099511627776)
    (ht : (FloatKind.f64.format.order thr 4562254508917369340 == some .gt || FloatKind.f64.format.order thr 4562254508917369340 == some .eq) = true) :
    Calls Try.prog 4 #[.agg cs, .int .i64 iv, .float .f64 thr] w fun e w' => e = .returned (.bool true) ∧ Grown w w' := by
  have hc : Hid (∀ k, k < 256 → (w.alloc (.cells cs 23)).cell? ⟨w.heap.size, k, none⟩ = some (.float .f32 (x k))) := fun k hk => by
    rw [cell_of_row _ _ k cs 23 (0, 0) (heap_alloc_new w (.cells cs 23))]; exact hx.out k hk
  have HT : Hid ((double.order thr 4562254508917369340 == some .gt || double.order thr 4562254508917369340 == some .eq) = true) := ht
  go_enter Try.func4, Try.ntmps4
  go_wp2
  clear ht
  go_loop [7] (fun i => ∃ k : Nat, k ≤ 256 ∧ i = .int .i64 k ∧ ∀ j, j < k → Nice 249 (x j)) (fun i => 256 - (intOf i).toNat)
  case atStart => exact ⟨0, by omega, rfl, fun j hj => by omega⟩
  case round =>
    obtain ⟨k, hk, rfl, hall0⟩ := hrel
    have hall : Hid (∀ j, j < k → Nice 249 (x j)) := hall0
    clear hall0
    by_cases hlt : k < 256
    · have hcell := hc.out k hlt
      have next : Hid (Nice 249 (x k) → ∀ j, j < k + 1 → Nice 249 (x j)) := fun hn j hj => by
        by_cases e : j = k
        · rw [e]; exact hn
        · exact hall.out j (by omega)
      cases q1 : (FloatKind.f32.format.order (x k) 0 == some .eq) with
      | true =>
        have HN : Hid (Nice 249 (x k)) := (nice_zero (x k) q1).1
        go_wp2
        go_round
        case rel => exact ⟨k + 1, by omega, by go_num, next.out HN.out⟩
        case measure => simp [intOf]; omega
      | false =>
        cases q2 : (FloatKind.f32.format.order (x k) 507307272 == some .gt || FloatKind.f32.format.order (x k) 507307272 == some .eq) with
        | false =>
          go_wp2
          go_ret
          exact ⟨rfl, (Grown.refl _).alloc _ _⟩
        | true =>
          cases q3 : (FloatKind.f32.format.order (x k) 1900671690 == some .lt || FloatKind.f32.format.order (x k) 1900671690 == some .eq) with
          | false =>
            go_wp2
            go_ret
            exact ⟨rfl, (Grown.refl _).alloc _ _⟩
          | true =>
            have HN : Hid (Nice 249 (x k)) := nice_of (x k) q2 q3
            go_wp2
            go_round
            case rel => exact ⟨k + 1, by omega, by go_num, next.out HN.out⟩
            case measure => simp [intOf]; omega
    · obtain rfl : k = 256 := by omega
      clear hk hlt
      have HA : Hid (∀ j, Nice 249 (x j)) := fun j => by
        by_cases e : j < 256
        · exact hall.out j e
        · rw [hx0.out j (by omega)]; exact nice0
      clear hall hx0
      obtain ⟨y, hy⟩ := pick_twice x HA.out
      have HY : Hid (∀ j, floatBits .mul .f32 (x j) 1073741824 = some (y j) ∧ Nice 250 (y j) ∧ mg (y j) = 2 * mg (x j)) := hy
      clear hy
      go_wp2_with (first | (refine wpList_alloc23 rfl rfl ?_))
      go_loopw [10] (fun i wr => ∃ (k : Nat) (C : Array Value), k ≤ 256 ∧ i = .int .i64 k ∧ C.size = 256 ∧ (∀ j, j < 256 → C[j]? = some (.float .f32 (if j < k then y j else 0))) ∧ wr = (w.alloc (Obj.cells cs 23)).alloc (Obj.cells C 23)) (fun i _ => 256 - (intOf i).toNat)
      case atStart => exact ⟨0, zeros (.float .f32 0), by omega, rfl, by simp [zeros], fun j hj => by simp [zeros, hj], rfl⟩
      case round =>
        obtain ⟨k, C, hk, rfl, hC1, hC2, rfl⟩ := hrel
        have HC2 : Hid (∀ j, j < 256 → C[j]? = some (.float .f32 (if j < k then y j else 0))) := hC2
        have HC1 : Hid (C.size = 256) := hC1
        clear hC1 hC2
        by_cases hlt : k < 256
        · have hcell : ((w.alloc (Obj.cells cs 23)).alloc (Obj.cells C 23)).cell? ⟨w.heap.size, k, none⟩ = some (.float .f32 (x k)) := by
            rw [cell_of_row _ _ k cs 23 (0, 0) (row_first w _ _)]; exact hx.out k hlt
          have o1 := fun t w => run_float_arith (P := Try.prog) w .mul t .f32 _ _ _ (HY.out k).1
          have hCk : C[k]? = some (.float .f32 0) := by rw [HC2.out k hlt]; simp
          have hCs : k < C.size := by rw [HC1.out]; exact hlt
          go_wp2_with (simp only [o1])
          go_roundw
          case rel =>
            refine ⟨k + 1, C.setIfInBounds k (.float .f32 (y k)), by omega, by go_num, by simp [HC1.out], fun j hj => ?_, rfl⟩
            by_cases e : j = k
            · subst e; simp [hCs]
            · rw [Array.getElem?_setIfInBounds_ne (Ne.symm e), HC2.out j hj]
              by_cases e2 : j < k
              · rw [if_pos e2, if_pos (by omega)]
              · rw [if_neg e2, if_neg (by omega)]
          case measure => simp [intOf]; omega
        · obtain rfl : k = 256 := by omega
          clear hk hlt
          have hCv : Hid (∀ j, j < 256 → C[j]? = some (.float .f32 (y j))) := fun j hj => by rw [HC2.out j hj, if_pos hj]
          clear HC2
          have hok : Okv (fun j => mg (x j)) := fun j => by
            rcases (HA.out j).2.1 with h | h
            · exact Or.inl h
            · exact Or.inr h.2
          have hrules := fun b hb => (rule_at iv thr h1 h2 HT.out b hb).2.2
          obtain ⟨r, HR⟩ : ∃ r, Hid (Res (fun j => mg (x j)) iv thr r) := res_any (fun j => mg (x j)) hok iv thr hrules
          have HR2 : Hid (Res (fun j => mg (y j)) iv thr r) := by
            have e : (fun j => mg (y j)) = fun j => 2 * (fun j => mg (x j)) j := by funext j; exact (HY.out j).2.2
            rw [e]
            exact res_double _ hok iv thr r HR.out
          have HX : Hid (∀ j, Nice 250 (x j)) := fun j => nice_up _ (HA.out j)
          have HY2 : Hid (∀ j, Nice 250 (y j)) := fun j => (HY.out j).2.1
          clear hok hrules
          have ld1 : ((w.alloc (Obj.cells cs 23)).alloc (Obj.cells C 23)).heap[w.heap.size]? = some (.cells cs 23) := row_first w _ _
          go_wp2_with (refine wpList_load_row rfl 23 _ rfl w.heap.size rfl 23 cs (0, 0) _ ld1 Try.underlying23 rfl (info23 cs hsz.out) ?_)
          refine (zz_nice cs x iv thr r hsz hx HX HR h1 h2 _).mono ?_
          rintro e w' ⟨rfl, rfl⟩
          clear ld1
          have ld2 : ((((w.alloc (Obj.cells cs 23)).alloc (Obj.cells C 23)).alloc (Obj.cells cs 23)).alloc (Obj.cells cs 31)).heap[w.heap.size + 1]? = some (.cells C 23) := row_second w _ _ _ _
          go_wp2_with (refine wpList_load_row rfl 23 _ rfl (w.heap.size + 1) rfl 23 C (0, 0) _ ld2 Try.underlying23 rfl (info23 C HC1.out) ?_)
          refine (zz_nice C y iv thr r HC1 hCv HY2 HR2 h1 h2 _).mono ?_
          rintro e w' ⟨rfl, rfl⟩
          clear ld2
          go_wp2
          go_loop [13, 14] (fun t i => ∃ (k : Nat) (an : Bool), k ≤ 256 ∧ i = .int .i64 k ∧ t = .bool an ∧ (an = true → ∃ j, j < k ∧ mg (x j) ≠ 0) ∧ (∀ j, j < k → mg (x j) ≠ 0 → ¬ RuleIs (((j : Int) + 1) * iv) thr r)) (fun _ i => 256 - (intOf i).toNat)
          case atStart => exact ⟨0, false, by omega, rfl, rfl, fun h => (by cases h), fun j hj => by omega⟩
          case round =>
            obtain ⟨k, an, hk, rfl, rfl, han0, hno0⟩ := hrel
            have han : Hid (an = true → ∃ j, j < k ∧ mg (x j) ≠ 0) := han0
            have hno : Hid (∀ j, j < k → mg (x j) ≠ 0 → ¬ RuleIs (((j : Int) + 1) * iv) thr r) := hno0
            clear han0 hno0
            by_cases hlt : k < 256
            · have hcell : ((((((w.alloc (Obj.cells cs 23)).alloc (Obj.cells C 23)).alloc (Obj.cells cs 23)).alloc (Obj.cells cs 31)).alloc (Obj.cells C 23)).alloc (Obj.cells C 31)).cell? ⟨w.heap.size, k, none⟩ = some (.float .f32 (x k)) := by
                rw [cell_of_row _ _ k cs 23 (0, 0) (row_deep w _ _ _ _ _ _)]; exact hx.out k hlt
              obtain ⟨a1, a2, r', ar⟩ := rule_at iv thr h1 h2 HT.out k hlt
              have AR : Hid (RuleIs (((k : Int) + 1) * iv) thr r') := ar
              clear ar
              by_cases h0 : mg (x k) = 0
              · have q1 : (FloatKind.f32.format.order (x k) 0 != some .eq) = false := eq_zero 250 (x k) (HX.out k) h0
                have H0 : Hid (mg (x k) = 0) := h0
                clear h0
                go_wp2
                go_round
                case rel =>
                  refine ⟨k + 1, an, by omega, by go_num, rfl, fun h => ?_, fun j hj hne => ?_⟩
                  · obtain ⟨j, hj, hjn⟩ := han.out h
                    exact ⟨j, by omega, hjn⟩
                  · by_cases e : j = k
                    · rw [e] at hne; exact absurd H0.out hne
                    · exact hno.out j (by omega) hne
                case measure => simp [intOf]; omega
              · have q1 : (FloatKind.f32.format.order (x k) 0 != some .eq) = true := ne_zero 250 (x k) (HX.out k) h0
                have H0 : Hid (mg (x k) ≠ 0) := h0
                clear h0
                by_cases e : r = r'
                · subst e
                  go_wp2_with (go_at_call 6; refine (rule_walk k iv thr r (by omega) (by omega) a1 a2 AR.out _).mono ?_; rintro e w' ⟨rfl, rfl⟩)
                  go_ret
                  refine ⟨rfl, ?_⟩
                  repeat (first | exact Grown.refl _ | apply Grown.alloc)
                · have e1 : (r == r') = false := by simpa using e
                  have E : Hid (r ≠ r') := e
                  clear e
                  go_wp2_with (go_at_call 6; refine (rule_walk k iv thr r' (by omega) (by omega) a1 a2 AR.out _).mono ?_; rintro e w' ⟨rfl, rfl⟩)
                  go_round
                  case rel =>
                    refine ⟨k + 1, true, by omega, by go_num, rfl, fun _ => ⟨k, by omega, H0.out⟩, fun j hj hne => ?_⟩
                    by_cases ej : j = k
                    · rw [ej]; exact fun hq => E.out (rule_det hq AR.out)
                    · exact hno.out j (by omega) hne
                  case measure => simp [intOf]; omega
            · obtain rfl : k = 256 := by omega
              have fin : Hid (an = false ∧ r = 0) := by
                rcases HR.out with ⟨z0, hr0⟩ | ⟨_, bb, b1, b2, _, _, b5⟩
                · refine ⟨?_, hr0⟩
                  cases an
                  · rfl
                  · obtain ⟨j, hj, hjn⟩ := han.out rfl
                    exact absurd (psum_all _ 256 z0 j hj) hjn
                · exact absurd b5 (hno.out bb b1 b2)
              obtain ⟨rfl, rfl⟩ := fin.out
              go_wp2
              go_ret
              refine ⟨rfl, ?_⟩
              repeat (first | exact Grown.refl _ | apply Grown.alloc)
end Go.Proofs.Qxb6608816a
