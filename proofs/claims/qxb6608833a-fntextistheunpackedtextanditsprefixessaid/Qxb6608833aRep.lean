/-
  The walks of slices.Grow and appendRepeat.
-/
import Derived.Test.Qxb6608833aMem
import Derived.Deep.DeepMust
namespace Go.Proofs.Qxb6608833a
open Go.RowKit

set_option maxRecDepth 100000 in
set_option maxHeartbeats 400000 in
theorem grow_any (B : Nat) (v : Value) (l : List UInt8) (n : Nat) (w : World) (hown : Hid (Own w B v l)) (hB : B ≤ w.heap.size) (hsmall : l.length + n ≤ 1073741824) :
    Calls Try.prog 96 #[v, .int .i64 n] w fun e w' => ∃ v', e = .returned v' ∧ Own w' B v' l ∧ Below B w w' := by
  obtain ⟨g, cap, hv, h4, h5⟩ := hown.out.shape
  subst hv
  by_cases hr : l.length + n ≤ cap
  · go_enter Try.func96, Try.ntmps96
    go_wp2
    go_ret
    exact ⟨_, rfl, hown.out, Below.refl _ _⟩
  · obtain ⟨m, hm⟩ : ∃ m : Nat, l.length + n = cap + m := ⟨l.length + n - cap, by omega⟩
    have hm' : (n : Int) - ((cap : Int) - (l.length : Int)) = (m : Int) := by omega
    have HM : Hid (l.length + n = cap + m) := hm
    clear hm
    have hm1 : 1 ≤ m := by have := HM.out; omega
    have hm2 : cap + m ≤ 1099511627776 := by have := HM.out; omega
    go_enter Try.func96, Try.ntmps96
    go_wp2_with (at_builtin; go_must (refine wpList_make rfl _ _ rfl B g cap m l rfl rfl hown.out hB hm1 hm2 ?_); intro g' c' w' q1 q2 q3)
    go_ret
    exact ⟨_, rfl, q2, q3⟩

/-- a stretch of an owned slice, as the source of an append -/
theorem src_own {w : World} {B : Nat} {l : List UInt8} {g cap n : Nat} (h : Own w B (.slice (some ⟨g, 0, none⟩) n cap) l) (p k c m : Nat) (hm : m = k) (hk : p + k ≤ l.length) :
    Src Try.prog 1 22 (.slice (some ⟨g, p, none⟩) m c) ((l.drop p).take k).length (bcs ((l.drop p).take k)) w := by
  rw [hm]
  have hl : ((l.drop p).take k).length = k := by rw [List.length_take, List.length_drop]; omega
  rw [hl]
  refine Src.ofSlice w Try.underlying22 ⟨g, p, none⟩ k c _ (by rw [bcs_length, hl, Nat.mul_one]) (fun j u hu => ?_) (bcs_one _)
  have hadd : (⟨g, p, none⟩ : Addr).add j = ⟨g, p + j, none⟩ := by unfold Addr.add; split <;> simp_all
  rw [hadd]
  have hj : j < k := by
    have := (List.getElem?_eq_some_iff.1 hu).1
    rw [bcs_length, hl] at this; exact this
  rw [bcs_get _ j (by omega)] at hu
  rw [h.cell.2 (p + j) (by omega), ← hu]
  congr 2
  unfold at'
  rw [List.getD_eq_getElem?_getD, List.getD_eq_getElem?_getD, List.getElem?_take, if_pos hj, List.getElem?_drop]

set_option maxRecDepth 100000 in
set_option maxHeartbeats 400000 in
theorem repeat_any (B : Nat) (v : Value) (l : List UInt8) (back n : Nat) (w : World) (hown : Hid (Own w B v l)) (hB : B ≤ w.heap.size) (hb1 : 1 ≤ back) (hb2 : back ≤ l.length) (hsmall : l.length + n ≤ 1073741824) :
    Calls Try.prog 81 #[v, .int .i64 back, .int .i64 n] w fun e w' => ∃ v', e = .returned v' ∧ Own w' B v' (rep l back n) ∧ Below B w w' := by
  obtain ⟨g, cap, hv, h4, h5⟩ := hown.out.shape
  subst hv
  go_enter Try.func81, Try.ntmps81
  go_wp2_with (go_at_call 96; refine (grow_any B _ l n _ hown hB hsmall).mono ?_; rintro e w1 ⟨v1, rfl, o1, b1⟩)
  have O1 : Hid (Own w1 B v1 l) := o1
  have B1 : Hid (Below B w w1) := b1
  clear o1 b1
  go_loopw [0, 2] (fun d m wr => ∃ t : Nat, t ≤ n ∧ m = .int .i64 ((n : Int) - t) ∧ Own wr B d (rep l back t) ∧ Below B w wr ∧ (t < n → ∃ c, 1 ≤ c ∧ back + t = c * back)) (fun _ m _ => (intOf m).toNat)
  case atStart => exact ⟨0, by omega, by simp, O1.out, B1.out, fun _ => ⟨1, by omega, by omega⟩⟩
  case round =>
    obtain ⟨t, ht, rfl, o2, b2, hc⟩ := hrel
    have hrl := rep_length l back t
    have hbel : B ≤ wr.heap.size := Nat.le_trans hB b2.size
    obtain ⟨g2, cap2, hv, h42, h52⟩ := o2.shape
    subst hv
    rw [hrl] at h42
    have O2 : Hid (Own wr B (.slice (some ⟨g2, 0, none⟩) (l.length + t) cap2) (rep l back t)) := by rw [← hrl]; exact o2
    have B2 : Hid (Below B w wr) := b2
    have HC : Hid (t < n → ∃ c, 1 ≤ c ∧ back + t = c * back) := hc
    clear o2 b2 hc
    rw [hrl]
    have HRL : Hid ((rep l back t).length = l.length + t) := hrl
    clear hrl
    by_cases hlt : t < n
    · by_cases hmin : n - t ≤ back + t
      · -- the last copy
        have hk : n - t ≤ back + t := hmin
        have S := src_own O2.out (l.length - back) (n - t) (cap2 - (l.length - back)) (l.length - back + (n - t) - (l.length - back)) (by omega) (by rw [HRL.out]; omega)
        have hsm : (rep l back t).length + (((rep l back t).drop (l.length - back)).take (n - t)).length ≤ 1099511627776 := by
          rw [List.length_take, List.length_drop, HRL.out]; omega
        have HS : Hid (Src Try.prog 1 22 (.slice (some ⟨g2, l.length - back, none⟩) (l.length - back + (n - t) - (l.length - back)) (cap2 - (l.length - back))) (((rep l back t).drop (l.length - back)).take (n - t)).length (bcs (((rep l back t).drop (l.length - back)).take (n - t))) wr) := S
        have HSM : Hid ((rep l back t).length + (((rep l back t).drop (l.length - back)).take (n - t)).length ≤ 1099511627776) := hsm
        clear S hsm
        go_wp2_with (at_builtin; go_must (refine wpList_app rfl _ _ 22 rfl B _ _ _ _ rfl rfl O2.out hbel HS.out HSM.out ?_); intro v3 w3 o3 b3)
        have e : rep l back t ++ ((rep l back t).drop (l.length - back)).take (n - t) = rep l back n := by
          rw [rep_round l back t (n - t) hb1 hb2 (HC.out hlt) hk]; congr 1; omega
        go_roundw
        case rel =>
          refine ⟨n, by omega, by go_num, by rw [← e]; exact o3, B2.out.trans b3, fun h => by omega⟩
        case measure => simp [intOf]; omega
      · have hk : back + t ≤ n - t := by omega
        have S := src_own O2.out (l.length - back) (back + t) (cap2 - (l.length - back)) (l.length - back + (l.length + t - (l.length - back)) - (l.length - back)) (by omega) (by rw [HRL.out]; omega)
        have hsm : (rep l back t).length + (((rep l back t).drop (l.length - back)).take (back + t)).length ≤ 1099511627776 := by
          rw [List.length_take, List.length_drop, HRL.out]; omega
        have HS : Hid (Src Try.prog 1 22 (.slice (some ⟨g2, l.length - back, none⟩) (l.length - back + (l.length + t - (l.length - back)) - (l.length - back)) (cap2 - (l.length - back))) (((rep l back t).drop (l.length - back)).take (back + t)).length (bcs (((rep l back t).drop (l.length - back)).take (back + t))) wr) := S
        have HSM : Hid ((rep l back t).length + (((rep l back t).drop (l.length - back)).take (back + t)).length ≤ 1099511627776) := hsm
        clear S hsm
        go_wp2_with (at_builtin; go_must (refine wpList_app rfl _ _ 22 rfl B _ _ _ _ rfl rfl O2.out hbel HS.out HSM.out ?_); intro v3 w3 o3 b3)
        have e : rep l back t ++ ((rep l back t).drop (l.length - back)).take (back + t) = rep l back (t + (back + t)) := rep_round l back t (back + t) hb1 hb2 (HC.out hlt) (Nat.le_refl _)
        go_roundw
        case rel =>
          refine ⟨t + (back + t), by omega, by go_num, by rw [← e]; exact o3, B2.out.trans b3, fun _ => ?_⟩
          obtain ⟨c, hc1, hc2⟩ := HC.out hlt
          exact ⟨2 * c, by omega, by rw [Nat.mul_assoc, ← hc2]; omega⟩
        case measure => simp [intOf]; omega
    · obtain rfl : t = n := by omega
      go_wp2
      go_ret
      exact ⟨_, rfl, O2.out, B2.out⟩
end Go.Proofs.Qxb6608833a
