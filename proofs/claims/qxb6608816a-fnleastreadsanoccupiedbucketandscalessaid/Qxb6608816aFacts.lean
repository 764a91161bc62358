/-
  What the program's float expressions give: the rule's range, whole counts and their sums.
-/
import Derived.Test.Qxb6608816aFl4
import Derived.Test.Qxb6608816aWalks
namespace Go.Proofs.Qxb6608816a
open Ieee Fl

theorem pp (a b c : Nat) (h : a + b = c) : 2 ^ a * 2 ^ b = 2 ^ c := by rw [← Nat.pow_add, h]

theorem plt (a b : Nat) (h : a < b) : 2 ^ a < 2 ^ b := Nat.pow_lt_pow_right (by omega) h

theorem mul_bnd (p q r K A n : Nat) (h : p + q = r) (h1 : A ≤ 2 ^ p) (h2 : n ≤ 2 ^ q) : A * (n * K) ≤ 2 ^ r * K := by
  rw [← pp p q r h, Nat.mul_assoc]
  exact Nat.mul_le_mul h1 (Nat.mul_le_mul_right _ h2)

theorem mul_ge (p q r t A B : Nat) (h : p + q = r + t) (h1 : 2 ^ p ≤ A) (h2 : 2 ^ q ≤ B) : 2 ^ r * 2 ^ t ≤ A * B := by
  rw [← Nat.pow_add, ← h, Nat.pow_add]
  exact Nat.mul_le_mul h1 h2

/-! ### integers as floats -/

theorem ofInt_s (n : Nat) (hn : n ≤ 16777216) : sgn single (floatOfInt .f32 n) = false ∧ rg single (floatOfInt .f32 n) < single.infRung ∧
    sv single (floatOfInt .f32 n) = (n : Int) * 2 ^ 149 ∧ floatOfInt .f32 n = single.word false (G single (n * 2 ^ 149) 0) := by
  have h1 : floatOfInt .f32 n = single.word ((n : Int) < 0) (min (G single ((n : Int).natAbs * 2 ^ (-single.leastPlace).toNat) 0) single.infRung) := ofInt_eq single n s_lp0
  have hneg : decide ((n : Int) < 0) = false := by simp
  rw [s_lp, Int.natAbs_natCast, hneg] at h1
  have hV : V single (G single (n * 2 ^ 149) 0) = n * 2 ^ 149 := V_G_pow single n 149 (by rw [s_fr]; omega)
  have hlt : G single (n * 2 ^ 149) 0 < single.infRung := by
    refine lt_inf single ?_
    rw [hV, s_inf]
    omega
  rw [Nat.min_eq_left (by omega)] at h1
  obtain ⟨a, b, c⟩ := word_false single (G single (n * 2 ^ 149) 0) (by omega)
  rw [← h1] at a b c
  refine ⟨a, by omega, ?_, h1⟩
  rw [c, hV]
  simp

theorem ofInt_d (n : Nat) (hn : n ≤ 281474976710656) : sgn double (floatOfInt .f64 n) = false ∧ rg double (floatOfInt .f64 n) < double.infRung ∧
    V double (rg double (floatOfInt .f64 n)) = n * 2 ^ 1074 := by
  have h1 : floatOfInt .f64 n = double.word ((n : Int) < 0) (min (G double ((n : Int).natAbs * 2 ^ (-double.leastPlace).toNat) 0) double.infRung) := ofInt_eq double n d_lp0
  have hneg : decide ((n : Int) < 0) = false := by simp
  rw [d_lp, Int.natAbs_natCast, hneg] at h1
  have hV : V double (G double (n * 2 ^ 1074) 0) = n * 2 ^ 1074 := V_G_pow double n 1074 (by rw [d_fr]; omega)
  have hlt : G double (n * 2 ^ 1074) 0 < double.infRung := by
    refine lt_inf double ?_
    rw [hV, d_inf]
    calc n * 2 ^ 1074 ≤ 2 ^ 48 * 2 ^ 1074 := Nat.mul_le_mul_right _ (by omega)
      _ = 2 ^ 1122 := pp 48 1074 1122 rfl
      _ < 2 ^ 2098 := plt 1122 2098 (by omega)
  rw [Nat.min_eq_left (by omega)] at h1
  obtain ⟨a, b, _⟩ := word_false double (G double (n * 2 ^ 1074) 0) (by omega)
  rw [← h1] at a b
  refine ⟨a, by omega, ?_⟩
  rw [b, hV]

/-! ### the rule's range -/

theorem c14 : sgn double 4608983858650965606 = false ∧ rg double 4608983858650965606 < double.infRung ∧ V double (rg double 4608983858650965606) ≤ 2 ^ 1075 := by decide +kernel
theorem ln10 : sgn double 4612367379483415830 = false ∧ rg double 4612367379483415830 < double.infRung ∧ 2 ^ 1075 ≤ V double (rg double 4612367379483415830) := by decide +kernel
theorem c001 : sgn double 4562254508917369340 = false ∧ rg double 4562254508917369340 < double.infRung ∧ 2 ^ 1064 ≤ V double (rg double 4562254508917369340) := by decide +kernel

theorem V_G_two (f : Format) (k : Nat) : V f (G f (2 ^ k) 0) = 2 ^ k := by
  have := V_G_pow f 1 k (Nat.one_le_two_pow)
  rwa [Nat.one_mul] at this
theorem G_le_two (f : Format) (N L k : Nat) (h : N ≤ 2 ^ k * 2 ^ L) : V f (G f N L) ≤ 2 ^ k := by
  rw [← V_G_two f k] at h ⊢
  have h1 := G_mono f L h
  rw [G_V] at h1
  exact V_mono f h1
theorem G_ge_two (f : Format) (N L k : Nat) (h : 2 ^ k * 2 ^ L ≤ N) : 2 ^ k ≤ V f (G f N L) := by
  rw [← V_G_two f k] at h ⊢
  have h1 := G_mono f L h
  rw [G_V] at h1
  exact V_mono f h1

theorem toInt_small (z r : Nat) (hz : z = double.word false r) (hr : r ≤ G double (2 ^ 60 * 2 ^ 1074) 0) : ∃ n : Int, floatToIntVal .f64 z .i64 = some n := by
  have hp : (2 : Nat) ^ 60 * 2 ^ 1074 = 2 ^ 1134 := pp 60 1074 1134 rfl
  rw [hp] at hr
  have hV : V double r ≤ 2 ^ 1134 := by
    have := V_mono double hr
    rwa [V_G_two double 1134] at this
  have hlt : r < double.infRung := by
    refine lt_inf double ?_
    rw [d_inf]
    exact Nat.lt_of_le_of_lt hV (plt 1134 2098 (by omega))
  obtain ⟨a, b, _⟩ := word_false double r (by omega)
  rw [← hz] at a b
  have ht := toInt_fin double z (by omega) d_lp0
  rw [a, b, d_lp] at ht
  have hq : V double r / 2 ^ 1074 ≤ 2 ^ 60 := by
    have hV' : V double r ≤ 2 ^ 1074 * 2 ^ 60 := Nat.le_trans hV (Nat.le_of_eq (pp 1074 60 1134 rfl).symm)
    exact Nat.div_le_of_le_mul hV'
  obtain ⟨k, hk⟩ : ∃ k, k = V double r / 2 ^ 1074 := ⟨_, rfl⟩
  rw [← hk] at ht hq
  refine ⟨(k : Int), ?_⟩
  have ht' : (FloatKind.f64.decode z).toInt .zero = some (sg false k) := ht
  unfold floatToIntVal
  rw [ht']
  have e : sg false k = (k : Int) := rfl
  rw [e]
  have hmin : IntKind.i64.min = -9223372036854775808 := by decide
  have hmax : IntKind.i64.max = 9223372036854775807 := by decide
  simp only [hmin, hmax]
  rw [if_pos (by omega)]

theorem rule_is (n : Nat) (hn : n ≤ 281474976710656) (thr : Nat)
    (ht : (double.order thr 4562254508917369340 == some .gt || double.order thr 4562254508917369340 == some .eq) = true) : ∃ r, RuleIs n thr r := by
  obtain ⟨i1, i2, i3⟩ := ofInt_d n hn
  obtain ⟨c1, c2, c3⟩ := c14
  obtain ⟨l1, l2, l3⟩ := ln10
  obtain ⟨k1, k2, k3⟩ := c001
  have hn48 : n ≤ 2 ^ 48 := by omega
  -- the numerator
  have hm := prod_fin double 4608983858650965606 (floatOfInt .f64 n) c2 i2 d_lp0
  rw [c1, i1, d_lp] at hm
  obtain ⟨rm, hrm⟩ : ∃ rm, rm = G double (V double (rg double 4608983858650965606) * V double (rg double (floatOfInt .f64 n))) 1074 := ⟨_, rfl⟩
  rw [← hrm] at hm
  have hVm : V double rm ≤ 2 ^ 1123 := by
    rw [hrm]
    refine G_le_two double _ 1074 1123 ?_
    obtain ⟨K, hK⟩ : ∃ K, K = 2 ^ 1074 := ⟨_, rfl⟩
    rw [i3, ← hK]
    exact mul_bnd 1075 48 1123 K (V double (rg double 4608983858650965606)) n rfl c3 hn48
  have hmlt : rm < double.infRung := by
    refine lt_inf double ?_
    rw [d_inf]
    exact Nat.lt_of_le_of_lt hVm (plt 1123 2098 (by omega))
  rw [Nat.min_eq_left (by omega), show (false ^^ false) = false from rfl] at hm
  obtain ⟨m1, m2, _⟩ := word_false double rm (by omega)
  obtain ⟨m, hmm⟩ : ∃ m, m = double.word false rm := ⟨_, rfl⟩
  rw [← hmm] at hm m1 m2
  -- the quotient by an infinity
  have byInf : ∀ p, rg double p = double.infRung → sgn double p = false → floatBits .mul .f64 thr 4612367379483415830 = some p → ∃ r, RuleIs n thr r := by
    intro p hp hs hpe
    obtain ⟨mm, i, e1, _, _⟩ := read_fin double m (by omega)
    have hq : double.div m p = some (double.word false 0) := by
      unfold Format.div Datum.quotient
      rw [e1, read_inf double p hp d_bi, m1, hs]
      rfl
    obtain ⟨r, hr⟩ := toInt_small (double.word false 0) 0 rfl (Nat.zero_le _)
    exact ⟨r, m, p, _, hm, hpe, hq, hr⟩
  rcases ge_cases double d_bi thr 4562254508917369340 k2 ht with ⟨hf, hge⟩ | ⟨hf, hsg⟩
  · rw [sv_pos double _ k1] at hge
    have hts : sgn double thr = false := by
      cases hs : sgn double thr
      · rfl
      · rw [sv_eq, hs] at hge
        have : sg true (V double (rg double thr)) ≤ 0 := by unfold sg; simp
        have := Nat.two_pow_pos 1064
        omega
    rw [sv_pos double _ hts] at hge
    have hge' : 2 ^ 1064 ≤ V double (rg double thr) := by omega
    have hp := prod_fin double thr 4612367379483415830 hf l2 d_lp0
    rw [hts, l1, d_lp] at hp
    obtain ⟨rp, hrp⟩ : ∃ rp, rp = G double (V double (rg double thr) * V double (rg double 4612367379483415830)) 1074 := ⟨_, rfl⟩
    rw [← hrp, show (false ^^ false) = false from rfl] at hp
    by_cases hpi : rp < double.infRung
    · rw [Nat.min_eq_left (by omega)] at hp
      obtain ⟨p1, p2, _⟩ := word_false double rp (by omega)
      obtain ⟨p, hpp⟩ : ∃ p, p = double.word false rp := ⟨_, rfl⟩
      rw [← hpp] at hp p1 p2
      have hVp : 2 ^ 1065 ≤ V double rp := by
        rw [hrp]
        refine G_ge_two double _ 1074 1065 ?_
        exact mul_ge 1064 1075 1065 1074 _ _ rfl hge' l3
      obtain ⟨z, s, r, hz1, hz2, hz3, hz4, _⟩ := quo_bound double m p (by omega) (by omega) d_lp0 1123 1065 60 (by rw [m2]; exact hVm) (by rw [p2]; exact hVp) (by omega)
      rw [m1, p1] at hz3
      subst hz3
      rw [d_lp] at hz4
      obtain ⟨k, hk⟩ := toInt_small z r hz2 hz4
      exact ⟨k, m, p, z, hm, hp, hz1, hk⟩
    · rw [Nat.min_eq_right (by omega)] at hp
      obtain ⟨p1, p2, _⟩ := word_false double double.infRung (Nat.le_refl _)
      exact byInf _ p2 p1 hp
  · obtain ⟨p1, p2, _⟩ := word_false double double.infRung (Nat.le_refl _)
    refine byInf _ p2 p1 ?_
    obtain ⟨nn, j, e2, _, v2⟩ := read_fin double 4612367379483415830 l2
    have hn0 : nn ≠ 0 := by
      intro h0
      rw [h0, Nat.zero_mul] at v2
      have := Nat.two_pow_pos 1075
      omega
    show double.mul thr 4612367379483415830 = some (double.word false double.infRung)
    unfold Format.mul Datum.product
    rw [read_inf double thr hf d_bi, e2]
    dsimp only
    rw [if_neg hn0, hsg, l1]
    rfl

theorem rule_det {n : Int} {thr : Nat} {r r' : Int} (h : RuleIs n thr r) (h' : RuleIs n thr r') : r = r' := by
  obtain ⟨m, p, q, a1, a2, a3, a4⟩ := h
  obtain ⟨m', p', q', b1, b2, b3, b4⟩ := h'
  rw [a1] at b1; cases b1
  rw [a2] at b2; cases b2
  rw [a3] at b3; cases b3
  rw [a4] at b4; cases b4
  rfl

end Go.Proofs.Qxb6608816a
