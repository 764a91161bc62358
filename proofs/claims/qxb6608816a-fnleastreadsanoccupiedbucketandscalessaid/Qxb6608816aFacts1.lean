/-
  Whole counts: their sums are exact; the limit lies below the total.
-/
import Derived.Test.Qxb6608816aFacts
namespace Go.Proofs.Qxb6608816a
open Ieee Fl

theorem c65536 : sgn single 1199570944 = false ∧ rg single 1199570944 < single.infRung ∧ V single (rg single 1199570944) = 65536 * 2 ^ 149 := by decide +kernel
theorem c0 : sgn single 0 = false ∧ rg single 0 < single.infRung ∧ V single (rg single 0) = 0 := by decide +kernel
theorem c01 : sgn single 1008981770 = false ∧ rg single 1008981770 < single.infRung ∧ 2 ^ 142 ≤ V single (rg single 1008981770) ∧ V single (rg single 1008981770) ≤ 2 ^ 143 := by decide +kernel
theorem sv0 : sv single 0 = 0 := by rw [sv_pos single 0 c0.1, c0.2.2]; rfl

theorem neg_of (c : Nat) (h : 0 ≤ sv single c) : sv single c = (V single (rg single c) : Int) := by
  rw [sv_eq] at h ⊢
  cases hs : sgn single c
  · rfl
  · rw [hs] at h
    unfold sg at h ⊢
    simp at h ⊢
    omega

theorem whole_of (c : Nat) (h1 : (single.order c 0 == some .gt || single.order c 0 == some .eq) = true) (h2 : (single.order c 1199570944 == some .lt || single.order c 1199570944 == some .eq) = true) :
    ∃ n : Nat, n ≤ 65536 ∧ floatToIntVal .f32 c .i32 = some (n : Int) ∧ rg single c < single.infRung ∧
      ((single.order (floatOfInt .f32 n) c == some .eq) = true → sv single c = (n : Int) * 2 ^ 149) := by
  obtain ⟨k1, k2, k3⟩ := c65536
  obtain ⟨hf, hlo, hhi⟩ := fin_of_between single s_bi c 0 1199570944 c0.2.1 k2 h1 h2
  rw [sv0] at hlo
  have hv := neg_of c hlo
  rw [hv, sv_pos single _ k1, k3] at hhi
  have ht := toInt_fin single c hf s_lp0
  rw [s_lp] at ht
  obtain ⟨v, hvv⟩ : ∃ v, v = V single (rg single c) := ⟨_, rfl⟩
  rw [← hvv] at ht hhi hv
  have hhi' : v ≤ 65536 * 2 ^ 149 := by omega
  obtain ⟨n, hn⟩ : ∃ n, n = v / 2 ^ 149 := ⟨_, rfl⟩
  have hn2 : n ≤ 65536 := by
    rw [hn]; exact Nat.div_le_of_le_mul (by rw [Nat.mul_comm]; exact hhi')
  rw [← hn] at ht
  have hsg : sg (sgn single c) n = (n : Int) := by
    cases hs : sgn single c
    · rfl
    · have : sv single c ≤ 0 := by rw [sv_eq, hs]; unfold sg; simp
      have h0 : v = 0 := by omega
      have : n = 0 := by simp [hn, h0]
      rw [this]; rfl
  rw [hsg] at ht
  refine ⟨n, hn2, ?_, hf, ?_⟩
  · have ht' : (FloatKind.f32.decode c).toInt .zero = some (n : Int) := ht
    unfold floatToIntVal
    rw [ht']
    have hmin : IntKind.i32.min = -2147483648 := by decide
    have hmax : IntKind.i32.max = 2147483647 := by decide
    simp only [hmin, hmax]
    rw [if_pos (by omega)]
  · intro he
    obtain ⟨_, i2, i3, _⟩ := ofInt_s n (by omega)
    rw [ord_eq single _ c i2 hf] at he
    simp at he
    rw [← he, i3]

theorem sum_whole (N n c : Nat) (hN : N + n ≤ 16777216) (hc : rg single c < single.infRung) (hs : sv single c = (n : Int) * 2 ^ 149) :
    floatBits .add .f32 (floatOfInt .f32 N) c = some (floatOfInt .f32 ((N + n : Nat) : Int)) := by
  obtain ⟨a1, a2, a3, _⟩ := ofInt_s N (by omega)
  obtain ⟨_, b2, b3, b4⟩ := ofInt_s (N + n) hN
  have h := sum_fin single (floatOfInt .f32 N) c a2 hc
  have hsum : sv single (floatOfInt .f32 N) + sv single c = ((N + n : Nat) : Int) * 2 ^ 149 := by
    rw [a3, hs, Int.natCast_add, Int.add_mul]
  rw [hsum, a1] at h
  have hab : (((N + n : Nat) : Int) * 2 ^ 149).natAbs = (N + n) * 2 ^ 149 := by
    rw [Int.natAbs_mul, Int.natAbs_natCast]; rfl
  have hsg : (if ((N + n : Nat) : Int) * 2 ^ 149 = 0 then false && sgn single c else decide (((N + n : Nat) : Int) * 2 ^ 149 < 0)) = false := by
    split
    · rfl
    · rw [decide_eq_false]; omega
  have hlt : G single ((N + n) * 2 ^ 149) 0 < single.infRung := by
    refine lt_inf single ?_
    rw [V_G_pow single (N + n) 149 (by rw [s_fr]; omega), s_inf]
    omega
  rw [hsg, hab, Nat.min_eq_left (by omega), ← b4] at h
  exact h

theorem pos_whole (N : Nat) (hN : N ≤ 16777216) : (single.order (floatOfInt .f32 N) 0 == some .gt) = decide (0 < N) := by
  obtain ⟨_, a2, a3, _⟩ := ofInt_s N hN
  rw [ord_gt single _ 0 a2 c0.2.1, a3, sv0, decide_eq_decide]
  omega

theorem lim_whole (N : Nat) (hN : N ≤ 16777216) : ∃ L, floatBits .mul .f32 (floatOfInt .f32 N) 1008981770 = some L ∧ (1 ≤ N → (single.order (floatOfInt .f32 N) L == some .gt) = true) := by
  obtain ⟨a1, a2, a3, a4⟩ := ofInt_s N hN
  obtain ⟨k1, k2, _, k4⟩ := c01
  have h := prod_fin single (floatOfInt .f32 N) 1008981770 a2 k2 s_lp0
  rw [a1, k1, s_lp] at h
  obtain ⟨v, hv⟩ : ∃ v, v = V single (rg single (floatOfInt .f32 N)) := ⟨_, rfl⟩
  have hvN : v = N * 2 ^ 149 := by
    have := sv_pos single _ a1
    rw [a3, ← hv] at this
    omega
  obtain ⟨r, hr⟩ : ∃ r, r = rg single (floatOfInt .f32 N) := ⟨_, rfl⟩
  obtain ⟨l, hl⟩ : ∃ l, l = G single (V single (rg single (floatOfInt .f32 N)) * V single (rg single 1008981770)) 149 := ⟨_, rfl⟩
  rw [← hl] at h
  have hle : l ≤ r := by
    have hN : V single (rg single (floatOfInt .f32 N)) * V single (rg single 1008981770) ≤ V single r * 2 ^ 149 := by
      rw [← hr]
      exact Nat.mul_le_mul_left _ (Nat.le_trans k4 (by omega))
    have := G_mono single 149 hN
    rwa [G_V, ← hl] at this
  refine ⟨_, h, ?_⟩
  intro h1
  rw [show (false ^^ false) = false from rfl, Nat.min_eq_left (by omega)]
  obtain ⟨_, w2, w3⟩ := word_false single l (by omega)
  rw [ord_gt single _ _ a2 (by rw [w2]; omega), w3, sv_pos single _ a1, ← hr]
  -- half the total is a float too
  have hB : single.binade + single.binade ≤ r := by
    have hVB : V single (single.binade + single.binade) = 2 * single.binade := by
      rw [V_double single (Nat.le_refl _), V_binade]
    refine (V_le_iff single).1 ?_
    rw [hVB, hr, ← hv, hvN, s_b]
    omega
  obtain ⟨q, hq⟩ : ∃ q, r = q + single.binade := ⟨r - single.binade, by omega⟩
  have hVq : V single r = 2 * V single q := by rw [hq]; exact V_double single (by omega)
  have hlq : l ≤ q := by
    have hN : V single (rg single (floatOfInt .f32 N)) * V single (rg single 1008981770) ≤ V single q * 2 ^ 149 := by
      rw [← hr, hVq]
      have : V single q * 2 ^ 149 = 2 * V single q * 2 ^ 148 := by
        rw [Nat.mul_comm 2, Nat.mul_assoc]
      rw [this]
      exact Nat.mul_le_mul_left _ (Nat.le_trans k4 (by omega))
    have := G_mono single 149 hN
    rwa [G_V, ← hl] at this
  have hlt : V single l < V single r := (V_lt_iff single).2 (by rw [hq]; have := binade_pos single; omega)
  simp
  omega

/-! ### running sums -/
def psum (n : Nat → Nat) : Nat → Nat
  | 0 => 0
  | k + 1 => psum n k + n k

theorem psum_le (n : Nat → Nat) (h : ∀ k, k < 256 → n k ≤ 65536) : ∀ k, k ≤ 256 → psum n k ≤ k * 65536
  | 0, _ => by simp [psum]
  | k + 1, hk => by
    have := psum_le n h k (by omega)
    have := h k (by omega)
    simp only [psum]
    omega

theorem psum_mono (n : Nat → Nat) : ∀ j k, psum n k ≤ psum n (k + j)
  | 0, k => Nat.le_refl _
  | j + 1, k => by
    have := psum_mono n j k
    rw [show k + (j + 1) = (k + j) + 1 by omega]
    simp only [psum]
    omega

/-- the greatest hit below m -/
theorem greatest (p : Nat → Bool) (h0 : p 0 = true) : ∀ m, 1 ≤ m → ∃ b, b < m ∧ p b = true ∧ ∀ b', b < b' → b' < m → p b' = false
  | 0, h => by omega
  | m + 1, _ => by
    by_cases hm : m = 0
    · subst hm; exact ⟨0, by omega, h0, fun b' _ _ => by omega⟩
    · cases hp : p m
      · obtain ⟨b, h1, h2, h3⟩ := greatest p h0 m (by omega)
        refine ⟨b, by omega, h2, fun b' hb hb' => ?_⟩
        by_cases e : b' = m
        · rw [e]; exact hp
        · exact h3 b' hb (by omega)
      · exact ⟨m, by omega, hp, fun b' _ _ => by omega⟩

end Go.Proofs.Qxb6608816a
