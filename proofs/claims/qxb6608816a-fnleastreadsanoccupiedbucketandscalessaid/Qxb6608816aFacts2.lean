/-
  Float counts: doubling every count doubles every sum and the limit; the reverse sum exceeds the limit.
-/
import Derived.Test.Qxb6608816aFacts1
namespace Go.Proofs.Qxb6608816a
open Ieee Fl

/-- the rungs of the running float sums of the magnitudes v -/
def tseq (v : Nat → Nat) : Nat → Nat
  | 0 => 0
  | k + 1 => G single (V single (tseq v k) + v k) 0

theorem V_t0 (v : Nat → Nat) : V single (tseq v 0) = 0 := V_zero single

/-- nought, or at least 2^82 units -/
def Okv (v : Nat → Nat) : Prop := ∀ k, v k = 0 ∨ 2 ^ 82 ≤ v k

theorem t_low (v : Nat → Nat) (h : Okv v) : ∀ k, V single (tseq v k) = 0 ∨ 2 ^ 82 ≤ V single (tseq v k)
  | 0 => Or.inl (V_t0 v)
  | k + 1 => by
    have ih := t_low v h k
    have hk := h k
    simp only [tseq]
    by_cases h0 : V single (tseq v k) + v k = 0
    · rw [h0, G_zero, V_zero]; exact Or.inl rfl
    · refine Or.inr (G_ge_two single _ 0 82 ?_)
      omega

theorem t_up (v : Nat → Nat) (hM : ∀ k, v k ≤ 2 ^ 250) : ∀ k, k ≤ 256 → V single (tseq v k) ≤ k * 2 ^ 250
  | 0, _ => by rw [V_t0]; exact Nat.zero_le _
  | k + 1, hk => by
    have ih := t_up v hM k (by omega)
    have hv := hM k
    simp only [tseq]
    have hle : V single (tseq v k) + v k ≤ (k + 1) * 2 ^ 250 := by rw [Nat.add_mul, Nat.one_mul]; exact Nat.add_le_add ih hv
    have h1 := V_mono single (G_mono single 0 hle)
    rwa [V_G_pow single (k + 1) 250 (by rw [s_fr]; omega)] at h1

theorem t_inf (v : Nat → Nat) (hM : ∀ k, v k ≤ 2 ^ 250) (k : Nat) (hk : k ≤ 256) : tseq v k < single.infRung := by
  refine lt_inf single ?_
  have := t_up v hM k hk
  rw [s_inf]
  have h2 : k * 2 ^ 250 ≤ 2 ^ 8 * 2 ^ 250 := Nat.mul_le_mul_right _ (by omega)
  rw [pp 8 250 258 rfl] at h2
  exact Nat.lt_of_le_of_lt (Nat.le_trans this h2) (plt 258 277 (by omega))

theorem big82 (N : Nat) (h : 2 ^ 82 ≤ N) : 2 ^ (0 + single.fractionBits) ≤ N := by
  rw [s_fr]; omega

theorem t_double (v : Nat → Nat) (h : Okv v) : ∀ k, V single (tseq (fun j => 2 * v j) k) = 2 * V single (tseq v k)
  | 0 => by rw [V_t0, V_t0]
  | k + 1 => by
    have ih := t_double v h k
    simp only [tseq]
    rw [ih, ← Nat.mul_add]
    by_cases h0 : V single (tseq v k) + v k = 0
    · rw [h0]; simp [G_zero, V_zero]
    · have hb : 2 ^ 82 ≤ V single (tseq v k) + v k := by
        have := t_low v h k
        have := h k
        omega
      rw [G_double single _ 0 (big82 _ hb), V_double single (G_binade single _ 0 (big82 _ hb))]

/-- the limit's rung -/
def lim (v : Nat → Nat) : Nat := G single (V single (tseq v 256) * V single (rg single 1008981770)) 149

theorem lim_big (v : Nat → Nat) (h : 2 ^ 82 ≤ V single (tseq v 256)) : 2 ^ (149 + single.fractionBits) ≤ V single (tseq v 256) * V single (rg single 1008981770) := by
  have := mul_ge 82 142 52 172 _ _ rfl h c01.2.2.1
  rw [s_fr]
  have e : (2 : Nat) ^ (149 + 23) = 1 * 2 ^ 172 := by rw [Nat.one_mul]
  rw [e]
  exact Nat.le_trans (Nat.mul_le_mul_right _ Nat.one_le_two_pow) this

theorem lim_double (v : Nat → Nat) (hv : Okv v) (h : 2 ^ 82 ≤ V single (tseq v 256)) : V single (lim (fun j => 2 * v j)) = 2 * V single (lim v) := by
  unfold lim
  rw [t_double v hv, Nat.mul_assoc, G_double single _ 149 (lim_big v h), V_double single (G_binade single _ 149 (lim_big v h))]

/-- the counts from the last to the first -/
def rev (v : Nat → Nat) : Nat → Nat := fun j => v (255 - j)
/-- the rung of what lies at b and above -/
def aseq (v : Nat → Nat) (b : Nat) : Nat := tseq (rev v) (256 - b)

theorem a_step (v : Nat → Nat) (b : Nat) (hb : b < 256) : aseq v b = G single (V single (aseq v (b + 1)) + v b) 0 := by
  unfold aseq
  rw [show 256 - b = (256 - (b + 1)) + 1 by omega]
  simp only [tseq]
  have : rev v (256 - (b + 1)) = v b := by unfold rev; congr 1; omega
  rw [this]

theorem a_last (v : Nat → Nat) : aseq v 256 = 0 := rfl
theorem okv_rev (v : Nat → Nat) (h : Okv v) : Okv (rev v) := fun k => h (255 - k)
theorem rev_double (v : Nat → Nat) : rev (fun j => 2 * v j) = fun j => 2 * rev v j := rfl
theorem a_double (v : Nat → Nat) (h : Okv v) (b : Nat) : V single (aseq (fun j => 2 * v j) b) = 2 * V single (aseq v b) := by
  unfold aseq
  rw [rev_double, t_double (rev v) (okv_rev v h)]

/-! ### the exact sum -/

theorem psum_cons (f : Nat → Nat) : ∀ n, psum f (n + 1) = f 0 + psum (fun k => f (k + 1)) n
  | 0 => by simp [psum]
  | n + 1 => by
    have := psum_cons f n
    rw [psum, this, psum]
    omega

theorem psum_rev (v : Nat → Nat) : ∀ n, psum (fun j => v (n - j)) (n + 1) = psum v (n + 1)
  | 0 => by simp [psum]
  | n + 1 => by
    rw [psum_cons]
    have e : (fun k => v (n + 1 - (k + 1))) = fun k => v (n - k) := by funext k; congr 1; omega
    rw [e, psum_rev v n]
    simp only [psum, Nat.sub_zero]
    omega

theorem t_zero (v : Nat → Nat) (h : Okv v) : ∀ k, (V single (tseq v k) = 0 ↔ psum v k = 0)
  | 0 => by rw [V_t0]; simp [psum]
  | k + 1 => by
    have ih := t_zero v h k
    have hk := h k
    have hl := t_low v h k
    simp only [tseq, psum]
    by_cases h0 : V single (tseq v k) + v k = 0
    · rw [h0, G_zero, V_zero]
      constructor
      · intro _; have := ih.1 (by omega); omega
      · intro _; rfl
    · have hb : 2 ^ 82 ≤ V single (G single (V single (tseq v k) + v k) 0) := G_ge_two single _ 0 82 (by omega)
      constructor
      · intro hc; omega
      · intro hc
        have : V single (tseq v k) = 0 := ih.2 (by omega)
        omega

theorem step_up (M T v E k : Nat) (hk : 2 * k ≤ M) (hM : 0 < M) (h : T * M ≤ E * (M + 2 * k)) (V' : Nat) (hV : M * V' ≤ (M + 1) * (T + v)) :
    V' * M ≤ (E + v) * (M + 2 * (k + 1)) := by
  have a1 : V' * M * M ≤ (T + v) * M * (M + 1) := by
    have := Nat.mul_le_mul_right M hV
    rw [Nat.mul_comm M V', Nat.mul_comm (M + 1) (T + v)] at this
    rwa [Nat.mul_assoc (T + v) M, Nat.mul_comm M (M + 1), ← Nat.mul_assoc]
  have a2 : (T + v) * M ≤ (E + v) * (M + 2 * k) := by
    rw [Nat.add_mul, Nat.add_mul]
    have : v * M ≤ v * (M + 2 * k) := Nat.mul_le_mul_left _ (by omega)
    omega
  have a3 : (T + v) * M * (M + 1) ≤ (E + v) * (M + 2 * k) * (M + 1) := Nat.mul_le_mul_right _ a2
  have a4 : (E + v) * (M + 2 * k) * (M + 1) ≤ (E + v) * (M + 2 * (k + 1)) * M := by
    rw [Nat.mul_assoc, Nat.mul_assoc]
    refine Nat.mul_le_mul_left _ ?_
    have e1 : (M + 2 * k) * (M + 1) = M * M + 2 * (k * M) + M + 2 * k := by
      simp only [Nat.add_mul, Nat.mul_add, Nat.mul_one, Nat.mul_assoc]; omega
    have e2 : (M + 2 * (k + 1)) * M = M * M + 2 * (k * M) + 2 * M := by
      simp only [Nat.add_mul, Nat.mul_add, Nat.mul_one, Nat.mul_assoc]; omega
    omega
  exact Nat.le_of_mul_le_mul_right (Nat.le_trans a1 (Nat.le_trans a3 a4)) hM

theorem step_low (M T v E k : Nat) (hk : 2 * k + 2 ≤ M) (h : E * (M - 2 * k) ≤ T * M) (V' : Nat) (hV : M * (T + v) ≤ M * V' + (T + v)) :
    (E + v) * (M - 2 * (k + 1)) ≤ V' * M := by
  have a1 : (T + v) * (M - 1) ≤ V' * M := by
    rw [Nat.mul_sub, Nat.mul_one, Nat.mul_comm (T + v) M, Nat.mul_comm V' M]; omega
  have a2 : (E + v) * (M - 2 * k) ≤ (T + v) * M := by
    rw [Nat.add_mul, Nat.add_mul]
    have : v * (M - 2 * k) ≤ v * M := Nat.mul_le_mul_left _ (by omega)
    omega
  have a3 : (E + v) * (M - 2 * k) * (M - 1) ≤ (T + v) * M * (M - 1) := Nat.mul_le_mul_right _ a2
  have a4 : (E + v) * (M - 2 * (k + 1)) * M ≤ (E + v) * (M - 2 * k) * (M - 1) := by
    rw [Nat.mul_assoc, Nat.mul_assoc]
    refine Nat.mul_le_mul_left _ ?_
    obtain ⟨m, hm⟩ : ∃ m, M = m + (2 * k + 2) := ⟨M - (2 * k + 2), by omega⟩
    rw [show M - 2 * (k + 1) = m by omega, show M - 2 * k = m + 2 by omega, show M - 1 = m + (2 * k + 1) by omega, hm]
    have e1 : m * (m + (2 * k + 2)) = m * m + 2 * (m * k) + 2 * m := by
      simp only [Nat.mul_add, Nat.mul_left_comm, Nat.mul_comm m 2]; omega
    have e2 : (m + 2) * (m + (2 * k + 1)) = m * m + 2 * (m * k) + m + 2 * m + 4 * k + 2 := by
      simp only [Nat.add_mul, Nat.mul_add, Nat.mul_one, Nat.mul_left_comm]; omega
    omega
  have a5 : (T + v) * M * (M - 1) = (T + v) * (M - 1) * M := by rw [Nat.mul_assoc, Nat.mul_assoc, Nat.mul_comm M]
  have a6 : (T + v) * (M - 1) * M ≤ V' * M * M := Nat.mul_le_mul_right _ a1
  exact Nat.le_of_mul_le_mul_right (Nat.le_trans a4 (Nat.le_trans a3 (by rw [a5]; exact a6))) (by omega)

theorem t_err (v : Nat → Nat) (M : Nat) (hM : M = 2 ^ (single.fractionBits + 1)) (hb : 2000 ≤ M) : ∀ k, k ≤ 256 → V single (tseq v k) * M ≤ psum v k * (M + 2 * k) ∧ psum v k * (M - 2 * k) ≤ V single (tseq v k) * M
  | 0, _ => by rw [V_t0]; simp [psum]
  | k + 1, hk => by
    obtain ⟨i1, i2⟩ := t_err v M hM hb k (by omega)
    obtain ⟨r1, r2⟩ := rel_err single (V single (tseq v k) + v k)
    rw [← hM] at r1 r2
    simp only [tseq, psum]
    exact ⟨step_up M _ _ _ k (by omega) (by omega) i1 _ r1, step_low M _ _ _ k (by omega) i2 _ r2⟩

/-- the reverse sum exceeds the limit -/
theorem top_hit (v : Nat → Nat) (h : Okv v) (h0 : psum v 256 ≠ 0) : V single (lim v) < V single (aseq v 0) := by
  obtain ⟨M, hM, hMb⟩ : ∃ M, M = 2 ^ (single.fractionBits + 1) ∧ 2000 ≤ M := ⟨_, rfl, by rw [s_fr]; omega⟩
  have e1 := (t_err v M hM hMb 256 (by omega)).1
  have e2 := (t_err (rev v) M hM hMb 256 (by omega)).2
  have hE : psum (rev v) 256 = psum v 256 := psum_rev v 255
  rw [hE] at e2
  have ha : aseq v 0 = tseq (rev v) 256 := rfl
  rw [← ha] at e2
  have hla : 2 ^ 82 ≤ V single (aseq v 0) := by
    rcases t_low (rev v) (okv_rev v h) 256 with hz | hz
    · exact absurd ((t_zero (rev v) (okv_rev v h) 256).1 hz) (by rw [hE]; exact h0)
    · exact hz
  obtain ⟨t, ht⟩ : ∃ t, t = V single (tseq v 256) := ⟨_, rfl⟩
  obtain ⟨a, haa⟩ : ∃ a, a = aseq v 0 := ⟨_, rfl⟩
  rw [← haa] at e2 hla ⊢
  have hta : t ≤ 2 * V single a := by
    rw [← ht] at e1
    obtain ⟨E, hEE⟩ : ∃ E, E = psum v 256 := ⟨_, rfl⟩
    rw [← hEE] at e1 e2
    have h3 : E * (M + 2 * 256) ≤ 2 * (E * (M - 2 * 256)) := by
      rw [Nat.mul_left_comm]
      exact Nat.mul_le_mul_left _ (by omega)
    refine Nat.le_of_mul_le_mul_right (c := M) ?_ (by omega)
    rw [Nat.mul_assoc]
    omega
  -- half of a
  have hB : single.binade + single.binade ≤ a := by
    have hVB : V single (single.binade + single.binade) = 2 * single.binade := by
      rw [V_double single (Nat.le_refl _), V_binade]
    refine (V_le_iff single).1 ?_
    rw [hVB, s_b]
    omega
  obtain ⟨q, hq⟩ : ∃ q, a = q + single.binade := ⟨a - single.binade, by omega⟩
  have hVq : V single a = 2 * V single q := by rw [hq]; exact V_double single (by omega)
  have hlq : lim v ≤ q := by
    have hN : V single (tseq v 256) * V single (rg single 1008981770) ≤ V single q * 2 ^ 149 := by
      rw [← ht]
      have k4 := c01.2.2.2
      have s1 : t * V single (rg single 1008981770) ≤ (4 * V single q) * 2 ^ 143 := Nat.mul_le_mul (by omega) k4
      have s2 : (4 * V single q) * 2 ^ 143 ≤ V single q * 2 ^ 149 := by
        rw [Nat.mul_comm 4, Nat.mul_assoc]; exact Nat.mul_le_mul_left _ (by omega)
      exact Nat.le_trans s1 s2
    have := G_mono single 149 hN
    rwa [G_V] at this
  exact (V_lt_iff single).2 (by rw [hq]; have := binade_pos single; omega)

/-- what least gives -/
def Res (v : Nat → Nat) (iv : Int) (thr : Nat) (r : Int) : Prop :=
  (psum v 256 = 0 ∧ r = 0) ∨ (psum v 256 ≠ 0 ∧ ∃ bb, bb < 256 ∧ v bb ≠ 0 ∧ V single (lim v) < V single (aseq v bb) ∧
    (∀ b, bb < b → b < 256 → V single (aseq v b) ≤ V single (lim v)) ∧ RuleIs (((bb : Int) + 1) * iv) thr r)

theorem psum_zero (v : Nat → Nat) (c : Nat) (hc : 0 < c) : ∀ k, (psum (fun j => c * v j) k = 0 ↔ psum v k = 0)
  | 0 => by simp [psum]
  | k + 1 => by
    have ih := psum_zero v c hc k
    simp only [psum]
    have : c * v k = 0 ↔ v k = 0 := by
      constructor
      · intro h; rcases Nat.mul_eq_zero.1 h with h | h <;> omega
      · intro h; rw [h, Nat.mul_zero]
    omega

theorem res_double (v : Nat → Nat) (h : Okv v) (iv : Int) (thr : Nat) (r : Int) (hr : Res v iv thr r) : Res (fun j => 2 * v j) iv thr r := by
  rcases hr with ⟨h0, rfl⟩ | ⟨h0, bb, b1, b2, b3, b4, b5⟩
  · exact Or.inl ⟨(psum_zero v 2 (by omega) 256).2 h0, rfl⟩
  · have hbig : 2 ^ 82 ≤ V single (tseq v 256) := by
      rcases t_low v h 256 with hz | hz
      · exact absurd ((t_zero v h 256).1 hz) h0
      · exact hz
    refine Or.inr ⟨fun hc => h0 ((psum_zero v 2 (by omega) 256).1 hc), bb, b1, by show 2 * v bb ≠ 0; omega, ?_, ?_, b5⟩
    · rw [lim_double v h hbig, a_double v h]; omega
    · intro b hb hb'
      rw [lim_double v h hbig, a_double v h]
      have := b4 b hb hb'
      omega

theorem res_any (v : Nat → Nat) (h : Okv v) (iv : Int) (thr : Nat) (hrule : ∀ b : Nat, b < 256 → ∃ r, RuleIs (((b : Int) + 1) * iv) thr r) : ∃ r, Res v iv thr r := by
  by_cases h0 : psum v 256 = 0
  · exact ⟨0, Or.inl ⟨h0, rfl⟩⟩
  · obtain ⟨bb, b1, b2, b3⟩ := greatest (fun b => decide (V single (lim v) < V single (aseq v b))) (by simpa using top_hit v h h0) 256 (by omega)
    obtain ⟨r, hr⟩ := hrule bb b1
    simp only [decide_eq_true_eq, decide_eq_false_iff_not, Nat.not_lt] at b2 b3
    refine ⟨r, Or.inr ⟨h0, bb, b1, ?_, b2, b3, hr⟩⟩
    intro hz
    have hs := a_step v bb b1
    rw [hz, Nat.add_zero] at hs
    have hg := G_V single (aseq v (bb + 1)) 0
    rw [Nat.pow_zero, Nat.mul_one] at hg
    rw [hg] at hs
    rw [hs] at b2
    by_cases e : bb + 1 < 256
    · have := b3 (bb + 1) (by omega) e; omega
    · have : bb + 1 = 256 := by omega
      rw [this, a_last, V_zero] at b2
      omega

end Go.Proofs.Qxb6608816a
