/-
  What millis gives, in whole numbers of units U = 2^1074 (H = 2^1073 is one half).
-/
import Derived.Test.Qxb6608893aWalks
namespace Go.Proofs.Qxb6608893a
open Ieee Fl

theorem c1000 : sgn double 4652007308841189376 = false ∧ rg double 4652007308841189376 < double.infRung ∧ V double (rg double 4652007308841189376) = 1000 * 2 ^ 1074 := by decide +kernel
theorem c9 : sgn double 4845865999795912704 = false ∧ rg double 4845865999795912704 < double.infRung ∧ V double (rg double 4845865999795912704) = 9000000000000000 * 2 ^ 1074 := by decide +kernel
theorem c9n : sgn double 14069238036650688512 = true ∧ rg double 14069238036650688512 < double.infRung ∧ V double (rg double 14069238036650688512) = 9000000000000000 * 2 ^ 1074 := by decide +kernel
theorem chalf : sgn double 4602678819172646912 = false ∧ rg double 4602678819172646912 < double.infRung ∧ V double (rg double 4602678819172646912) = 2 ^ 1073 := by decide +kernel
theorem cnhalf : sgn double 13826050856027422720 = true ∧ rg double 13826050856027422720 < double.infRung ∧ V double (rg double 13826050856027422720) = 2 ^ 1073 := by decide +kernel
theorem czero : sgn double 0 = false ∧ rg double 0 < double.infRung ∧ V double (rg double 0) = 0 := by decide +kernel

/-- the product's magnitude for an input of magnitude v -/
def prodOf (v : Nat) : Nat := V double (G double (v * (1000 * 2 ^ 1074)) 1074)
/-- the milliseconds for an input of magnitude v -/
def msOf (v : Nat) : Nat := wholeOf (prodOf v)

theorem prodOf_mono {v v' : Nat} (h : v ≤ v') : prodOf v ≤ prodOf v' := V_mono double (G_mono double 1074 (Nat.mul_le_mul_right _ h))
theorem wholeOf_mono {v v' : Nat} (h : v ≤ v') : wholeOf v ≤ wholeOf v' := by
  unfold wholeOf
  generalize (2 : Nat) ^ 1074 = U
  generalize (2 : Nat) ^ 1073 = H
  exact Nat.div_le_div_right (Nat.add_le_add_right h _)
theorem scale_le (K : Nat) (h : K ≤ 9000000000000000000) : K * 2 ^ 1074 ≤ 9000000000000000000 * 2 ^ 1074 := by
  generalize (2 : Nat) ^ 1074 = U
  exact Nat.mul_le_mul_right _ h
theorem msOf_mono {v v' : Nat} (h : v ≤ v') : msOf v ≤ msOf v' := wholeOf_mono (prodOf_mono h)
theorem prodOf_zero : prodOf 0 = 0 := by
  unfold prodOf
  generalize 1000 * 2 ^ 1074 = c
  rw [Nat.zero_mul, G_zero, V_zero]
theorem msOf_zero : msOf 0 = 0 := by
  unfold msOf wholeOf
  rw [prodOf_zero]
  have hU := uh
  have hH := Nat.two_pow_pos 1073
  generalize (2 : Nat) ^ 1074 = U at *
  generalize (2 : Nat) ^ 1073 = H at *
  exact Nat.div_eq_of_lt (by omega)

/-- 9e18 is a float -/
theorem r9e18 : V double 4890691058569617664 = 9000000000000000000 * 2 ^ 1074 := by decide +kernel

theorem top_le (v : Nat) (h : v ≤ 9000000000000000 * 2 ^ 1074) : G double (v * (1000 * 2 ^ 1074)) 1074 ≤ 4890691058569617664 := by
  have h1 : v * (1000 * 2 ^ 1074) ≤ V double 4890691058569617664 * 2 ^ 1074 := by
    rw [r9e18]
    generalize (2 : Nat) ^ 1074 = U at *
    have := Nat.mul_le_mul_right (1000 * U) h
    have e : 9000000000000000 * U * (1000 * U) = 9000000000000000000 * U * U := by
      rw [Nat.mul_assoc, Nat.mul_left_comm U 1000 U, ← Nat.mul_assoc, ← Nat.mul_assoc]
    omega
  have h2 := G_mono double 1074 h1
  have h3 := G_V double 4890691058569617664 1074
  omega

theorem inf_num : double.infRung = 9218868437227405312 := by decide

theorem word_parts (x : Nat) (hx : x < 18446744073709551616) : x = double.word (sgn double x) (rg double x) := by
  have hs : double.signWeight = 9223372036854775808 := by decide
  rw [word_num]
  unfold sgn rg
  rw [hs]
  by_cases h : x < 9223372036854775808
  · rw [Nat.div_eq_of_lt h, Nat.mod_eq_of_lt h]; simp
  · have e1 : x / 9223372036854775808 = 1 := by omega
    have e2 : x % 9223372036854775808 = x - 9223372036854775808 := by omega
    rw [e1, e2]; simp; omega

theorem word_vals (s : Bool) (r : Nat) (h : r ≤ double.infRung) : sgn double (double.word s r) = s ∧ rg double (double.word s r) = r ∧ sv double (double.word s r) = sg s (V double r) := by
  have hl := inf_lt double
  have a := sgn_word double s (r := r) (by omega)
  have b := rg_word double s (r := r) (by omega)
  exact ⟨a, b, by rw [sv_eq, a, b]⟩

/-- millis at a finite word of the range -/
theorem millis_is (x : Nat) (hx : rg double x < double.infRung) (hv : V double (rg double x) ≤ 9000000000000000 * 2 ^ 1074) :
    ∃ p rp, MillisIs x p (sg (sgn double x) (msOf (V double (rg double x)))) ∧ p = double.word (sgn double x) rp ∧ rp ≤ 4890691058569617664 ∧ V double rp = prodOf (V double (rg double x)) ∧ msOf (V double (rg double x)) ≤ 9000000000000000000 := by
  obtain ⟨k1, k2, k3⟩ := c1000
  have hp := prod_fin double x 4652007308841189376 hx k2 d_lp0
  rw [k1, k3, d_lp, Bool.xor_false] at hp
  have ht := top_le _ hv
  have hi := inf_num
  rw [Nat.min_eq_left (by omega)] at hp
  obtain ⟨rp, hrp⟩ : ∃ rp, rp = G double (V double (rg double x) * (1000 * 2 ^ 1074)) 1074 := ⟨_, rfl⟩
  have hV : V double rp = prodOf (V double (rg double x)) := by rw [hrp]; rfl
  rw [← hrp] at hp ht
  have hle : msOf (V double (rg double x)) ≤ 9000000000000000000 := by
    unfold msOf
    rw [← hV]
    have hm := wholeOf_mono (V_mono double ht)
    rw [r9e18] at hm
    refine Nat.le_trans hm ?_
    unfold wholeOf
    have hU := uh
    have hH := Nat.two_pow_pos 1073
    generalize (2 : Nat) ^ 1074 = U at *
    generalize (2 : Nat) ^ 1073 = H at *
    rw [Nat.mul_comm, Nat.mul_add_div (by omega), Nat.div_eq_of_lt (by omega)]
    exact Nat.le_refl _
  refine ⟨double.word (sgn double x) rp, rp, ⟨hp, ?_⟩, rfl, ht, hV, hle⟩
  obtain ⟨r', e1, e2⟩ := rnd_word (sgn double x) rp (by omega)
  rw [e1]
  have hr' : r' ≤ 4890691058569617664 := by
    refine (V_le_iff double).1 ?_
    rw [r9e18, e2]
    rw [hV]; exact scale_le _ hle
  obtain ⟨a, b, _⟩ := word_vals (sgn double x) r' (by omega)
  have ht2 := toInt_fin double (double.word (sgn double x) r') (by omega) d_lp0
  rw [a, b, d_lp, e2] at ht2
  have hq : wholeOf (V double rp) * 2 ^ 1074 / 2 ^ 1074 = msOf (V double (rg double x)) := by
    rw [hV]
    have hU := Nat.two_pow_pos 1074
    generalize (2 : Nat) ^ 1074 = U at *
    rw [Nat.mul_div_cancel _ hU]; rfl
  rw [hq] at ht2
  have ht' : (FloatKind.f64.decode (double.word (sgn double x) r')).toInt .zero = some (sg (sgn double x) (msOf (V double (rg double x)))) := ht2
  unfold floatToIntVal
  rw [ht']
  have hmin : IntKind.i64.min = -9223372036854775808 := by decide
  have hmax : IntKind.i64.max = 9223372036854775807 := by decide
  simp only [hmin, hmax]
  rw [if_pos]
  generalize msOf (V double (rg double x)) = m at *
  unfold sg
  split <;> omega

/-- the difference of the product and the milliseconds: exact -/
theorem gap_is (s : Bool) (rp : Nat) (hr : rp ≤ 4890691058569617664) (hk : wholeOf (V double rp) ≤ 9000000000000000000) :
    ∃ d, floatBits .sub .f64 (double.word s rp) (floatOfInt .f64 (sg s (wholeOf (V double rp)))) = some d ∧ rg double d < double.infRung ∧
      sv double d = sg s (V double rp) - sg s (wholeOf (V double rp) * 2 ^ 1074) := by
  have hi := inf_num
  obtain ⟨K, hK⟩ : ∃ K, K = wholeOf (V double rp) := ⟨_, rfl⟩
  obtain ⟨r', _, e2⟩ := rnd_word s rp (by omega)
  have h1 : floatOfInt .f64 (sg s K) = double.word (sg s K < 0) (min (G double ((sg s K).natAbs * 2 ^ (-double.leastPlace).toNat) 0) double.infRung) := ofInt_eq double _ d_lp0
  have hG : G double (K * 2 ^ 1074) 0 = r' := by
    have := G_V double r' 0
    rw [Nat.pow_zero, Nat.mul_one, e2, ← hK] at this
    exact this
  have hr' : r' ≤ 4890691058569617664 := by
    refine (V_le_iff double).1 ?_
    rw [r9e18, e2]
    exact scale_le _ hk
  rw [d_lp, sg_natAbs, hG, Nat.min_eq_left (by omega)] at h1
  obtain ⟨a1, a2, a3⟩ := word_vals s rp (by omega)
  obtain ⟨b1, b2, b3⟩ := word_vals (sg s K < 0) r' (by omega)
  rw [e2, ← hK] at b3
  have b4 : sv double (double.word (sg s K < 0) r') = sg s (K * 2 ^ 1074) := by
    rw [b3]
    generalize (2 : Nat) ^ 1074 = U at *
    by_cases hz : K = 0
    · rw [hz, Nat.zero_mul]; unfold sg; cases s <;> simp
    · have hd : decide (sg s K < 0) = s := by unfold sg; cases s <;> simp <;> omega
      rw [hd]
  have hs := diff_fin double (double.word s rp) (double.word (sg s K < 0) r') (by omega) (by omega)
  rw [a3, b4] at hs
  rw [← hK, h1]
  obtain ⟨D, hD⟩ : ∃ D, D = (sg s (V double rp) - sg s (K * 2 ^ 1074)).natAbs := ⟨_, rfl⟩
  have hex : V double (G double D 0) = D := by
    refine gap_exact rp D ?_
    rw [← hK, hD]
    generalize K * 2 ^ 1074 = q
    generalize V double rp = v
    unfold sg
    cases s <;> simp <;> omega
  have hDle : D ≤ 2 ^ 1073 := by
    have hb := wholeOf_bounds (V double rp)
    have hU := uh
    rw [← hK] at hb
    rw [hD]
    generalize K * 2 ^ 1074 = q at *
    generalize V double rp = v at *
    generalize (2 : Nat) ^ 1074 = U at *
    generalize (2 : Nat) ^ 1073 = H at *
    unfold sg
    cases s <;> simp <;> omega
  have hDr : G double D 0 < double.infRung := by
    refine lt_inf double ?_
    rw [hex, d_inf]
    exact Nat.lt_of_le_of_lt hDle (pow_lt 1073 2098 (by omega))
  rw [← hD, Nat.min_eq_left (by omega)] at hs
  refine ⟨_, hs, ?_, ?_⟩
  · obtain ⟨_, c2, _⟩ := word_vals (if sg s (V double rp) - sg s (K * 2 ^ 1074) = 0 then sgn double (double.word s rp) && !sgn double (double.word (sg s K < 0) r') else decide (sg s (V double rp) - sg s (K * 2 ^ 1074) < 0)) (G double D 0) (by omega)
    rw [c2]; exact hDr
  · obtain ⟨_, _, c3⟩ := word_vals (if sg s (V double rp) - sg s (K * 2 ^ 1074) = 0 then sgn double (double.word s rp) && !sgn double (double.word (sg s K < 0) r') else decide (sg s (V double rp) - sg s (K * 2 ^ 1074) < 0)) (G double D 0) (by omega)
    rw [c3, hex, hD]
    generalize sg s (V double rp) - sg s (K * 2 ^ 1074) = z
    by_cases hz : z = 0
    · rw [if_pos hz, hz]; unfold sg; split <;> simp
    · rw [if_neg hz]; unfold sg; split
      · rename_i h; simp at h; omega
      · rename_i h; simp at h; omega

end Go.Proofs.Qxb6608893a
