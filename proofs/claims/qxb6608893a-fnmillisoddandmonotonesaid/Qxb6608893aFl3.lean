/-
  Exactness, doubling, relative error, the quotient's bound. No Go in sight.
-/
import Derived.Test.Qxb6608893aFl2
namespace Go.Proofs.Qxb6608893a.Fl
open Ieee

theorem V_G_exact (f : Format) (N L : Nat) (h : 2 ^ lastOf f N L ∣ N) : V f (G f N L) * 2 ^ L = N := by
  rw [V_G]
  obtain ⟨k, hk⟩ := h
  have := rne_mul k (2 ^ lastOf f N L) (Nat.two_pow_pos _)
  rw [Nat.mul_comm] at hk
  rw [← hk] at this
  rw [this]; exact hk.symm

theorem lastOf_le (f : Format) (N L K : Nat) (h : N < 2 ^ (K + f.fractionBits + 1)) (hL : L ≤ K) : lastOf f N L ≤ K := by
  unfold lastOf
  by_cases h0 : N = 0
  · rw [h0, Nat.log2_zero]; omega
  · have := (Nat.log2_lt h0).2 h; omega

/-- a whole number of at most fractionBits + 1 digits is a float -/
theorem V_G_pow (f : Format) (n K : Nat) (hn : n ≤ 2 ^ (f.fractionBits + 1)) : V f (G f (n * 2 ^ K) 0) = n * 2 ^ K := by
  have key : ∀ n K, n < 2 ^ (f.fractionBits + 1) → V f (G f (n * 2 ^ K) 0) = n * 2 ^ K := by
    intro n K hn
    have h1 : n * 2 ^ K < 2 ^ (K + f.fractionBits + 1) := by
      rw [show K + f.fractionBits + 1 = (f.fractionBits + 1) + K by omega, Nat.pow_add]; exact Nat.mul_lt_mul_of_pos_right hn (Nat.two_pow_pos _)
    have h2 := lastOf_le f (n * 2 ^ K) 0 K h1 (by omega)
    have h3 := V_G_exact f (n * 2 ^ K) 0 (Nat.dvd_mul_left_of_dvd (Nat.pow_dvd_pow 2 h2) n)
    rwa [Nat.pow_zero, Nat.mul_one] at h3
  by_cases e : n = 2 ^ (f.fractionBits + 1)
  · have := key (2 ^ f.fractionBits) (K + 1) (Nat.pow_lt_pow_right (by omega) (by omega))
    have e2 : 2 ^ f.fractionBits * 2 ^ (K + 1) = n * 2 ^ K := by rw [e, ← Nat.pow_add, ← Nat.pow_add]; congr 1; omega
    rwa [e2] at this
  · exact key n K (by omega)

theorem V_double (f : Format) {r : Nat} (h : f.binade ≤ r) : V f (r + f.binade) = 2 * V f r := by
  have hB := binade_pos f
  unfold V
  rw [if_neg (by omega), if_neg (by omega), Nat.add_mod_right, Nat.add_div_right _ hB]
  obtain ⟨j, hj⟩ : ∃ j, r / f.binade = j + 1 := ⟨r / f.binade - 1, by have := (Nat.le_div_iff_mul_le hB (x := 1) (y := r)).2 (by omega); omega⟩
  rw [hj]
  simp only [Nat.add_sub_cancel, Nat.pow_succ]
  rw [← Nat.mul_assoc, Nat.mul_comm]

theorem V_binade (f : Format) : V f f.binade = f.binade := by
  have := V_at f 0 f.binade (by omega) (Or.inl (Nat.le_refl _))
  simpa using this

theorem G_binade (f : Format) (N L : Nat) (h : 2 ^ (L + f.fractionBits) ≤ N) : f.binade ≤ G f N L := by
  have a := G_V f f.binade L
  rw [V_binade] at a
  have b : f.binade * 2 ^ L ≤ N := by
    unfold Format.binade; rw [← Nat.pow_add, Nat.add_comm]; exact h
  have := G_mono f L b
  omega

theorem G_double (f : Format) (N L : Nat) (h : 2 ^ (L + f.fractionBits) ≤ N) : G f (2 * N) L = G f N L + f.binade := by
  have h0 : N ≠ 0 := by have := Nat.two_pow_pos (L + f.fractionBits); omega
  have hl := (Nat.le_log2 h0).2 h
  have e : (2 * N).log2 = N.log2 + 1 := by
    have := log2_mul_pow N 1 h0
    rwa [Nat.pow_one, Nat.mul_comm] at this
  have e1 : lastOf f N L = N.log2 - f.fractionBits := by unfold lastOf; omega
  have e2 : lastOf f (2 * N) L = lastOf f N L + 1 := by unfold lastOf; rw [e]; omega
  unfold G
  rw [e2, Nat.pow_succ, Nat.mul_comm 2 N, rne_scale _ _ _ (by omega)]
  rw [show lastOf f N L + 1 - L = (lastOf f N L - L) + 1 by omega, Nat.add_mul]
  omega

/-- the relative error of one rounding -/
theorem rel_err (f : Format) (N : Nat) :
    2 ^ (f.fractionBits + 1) * V f (G f N 0) ≤ (2 ^ (f.fractionBits + 1) + 1) * N ∧ 2 ^ (f.fractionBits + 1) * N ≤ 2 ^ (f.fractionBits + 1) * V f (G f N 0) + N := by
  have hV := V_G f N 0
  rw [Nat.pow_zero, Nat.mul_one] at hV
  have he := rne_err N (2 ^ lastOf f N 0) (Nat.two_pow_pos _)
  rw [← hV] at he
  obtain ⟨v, hv⟩ : ∃ v, v = V f (G f N 0) := ⟨_, rfl⟩
  rw [← hv] at he ⊢
  by_cases h : 2 ^ f.fractionBits ≤ N
  · have h0 : N ≠ 0 := by have := Nat.two_pow_pos f.fractionBits; omega
    have hl := (Nat.le_log2 h0).2 h
    have e1 : lastOf f N 0 = N.log2 - f.fractionBits := by unfold lastOf; omega
    have hs := Nat.log2_self_le h0
    have h2 : 2 ^ f.fractionBits * 2 ^ lastOf f N 0 ≤ N := by
      rw [← Nat.pow_add, e1, show f.fractionBits + (N.log2 - f.fractionBits) = N.log2 by omega]; exact hs
    obtain ⟨g, hg⟩ : ∃ g, g = 2 ^ lastOf f N 0 := ⟨_, rfl⟩
    obtain ⟨b, hb⟩ : ∃ b, b = 2 ^ f.fractionBits := ⟨_, rfl⟩
    rw [← hg] at he h2
    rw [Nat.pow_succ]
    rw [← hb] at h2 ⊢
    have a1 := Nat.mul_le_mul_left b he.1
    have a2 := Nat.mul_le_mul_left b he.2
    rw [Nat.mul_add, Nat.mul_left_comm] at a1
    rw [Nat.mul_add, Nat.mul_left_comm, Nat.mul_left_comm b 2 v] at a2
    rw [Nat.add_mul, Nat.one_mul]
    have c1 : b * 2 * v = 2 * (b * v) := by rw [Nat.mul_comm b 2, Nat.mul_assoc]
    have c2 : b * 2 * N = 2 * (b * N) := by rw [Nat.mul_comm b 2, Nat.mul_assoc]
    rw [c1, c2]
    rw [Nat.mul_left_comm b 2 N] at a1
    constructor <;> omega
  · have e1 : lastOf f N 0 = 0 := by
      have := lastOf_le f N 0 0 (by have : 2 ^ f.fractionBits ≤ 2 ^ (0 + f.fractionBits + 1) := Nat.pow_le_pow_right (by omega) (by omega); omega) (by omega)
      omega
    have : v = N := by rw [hv, hV, e1, Nat.pow_zero, rne_one, Nat.mul_one]
    rw [this, Nat.add_mul, Nat.one_mul]
    omega

/-! ### the quotient -/

theorem quo_bound (f : Format) (x y : Nat) (hx : rg f x < f.infRung) (hy : rg f y < f.infRung) (hl : f.leastPlace ≤ 0)
    (a b c : Nat) (h1 : V f (rg f x) ≤ 2 ^ a) (h2 : 2 ^ b ≤ V f (rg f y)) (hc : a + 1 ≤ b + c) :
    ∃ z s r, f.div x y = some z ∧ z = f.word s r ∧ s = (sgn f x ^^ sgn f y) ∧ r ≤ G f (2 ^ c * 2 ^ (-f.leastPlace).toNat) 0 ∧ r ≤ f.infRung := by
  obtain ⟨m, i, e1, hi, v1⟩ := read_fin f x hx
  obtain ⟨n, j, e2, hj, v2⟩ := read_fin f y hy
  have hn : n ≠ 0 := by
    intro hn; rw [hn, Nat.zero_mul] at v2; have := Nat.two_pow_pos b; omega
  unfold Format.div Datum.quotient
  rw [e1, e2]
  dsimp only
  rw [if_neg hn, Option.map_some]
  unfold Format.write
  dsimp only
  obtain ⟨mo, hmo⟩ : ∃ mo, mo = f.fractionBits + 2 + n.log2 - m.log2 := ⟨_, rfl⟩
  rw [← hmo]
  obtain ⟨d, hd⟩ : ∃ d, d = m <<< mo := ⟨_, rfl⟩
  rw [← hd]
  obtain ⟨q, hq⟩ : ∃ q, q = 2 * (d / n) + (d % n != 0).toNat := ⟨_, rfl⟩
  rw [← hq]
  obtain ⟨pl, hpl⟩ : ∃ pl : Int, pl = i - j - (mo : Int) - 1 := ⟨_, rfl⟩
  rw [← hpl]
  obtain ⟨u, hu⟩ : ∃ u : Int, u = min pl f.leastPlace := ⟨_, rfl⟩
  refine ⟨_, _, _, rfl, nearest_eq f _ q pl u (by omega) (by omega), rfl, ?_, by omega⟩
  refine Nat.le_trans (Nat.min_le_left _ _) ?_
  have up : 2 ^ c * 2 ^ (-f.leastPlace).toNat = V f (G f (2 ^ c * 2 ^ (-f.leastPlace).toNat) 0) := by
    rw [← Nat.pow_add]
    have := V_G_pow f 1 (c + (-f.leastPlace).toNat) (Nat.one_le_two_pow)
    rw [Nat.one_mul] at this
    exact this.symm
  have goal : q * 2 ^ (pl - u).toNat ≤ 2 ^ c * 2 ^ (-f.leastPlace).toNat * 2 ^ (f.leastPlace - u).toNat := by
    -- m zero
    by_cases hm : m = 0
    · have : d = 0 := by rw [hd, hm]; simp
      have : q = 0 := by rw [hq, this]; simp
      rw [this, Nat.zero_mul]; exact Nat.zero_le _
    have hms := Nat.log2_self_le hm
    have hns := Nat.lt_log2_self (n := n)
    have hdn : n ≤ d := by
      rw [hd, Nat.shiftLeft_eq]
      have p1 : 2 ^ (n.log2 + 1) ≤ 2 ^ (m.log2 + mo) := Nat.pow_le_pow_right (by omega) (by omega)
      have p2 : 2 ^ (m.log2 + mo) ≤ m * 2 ^ mo := by rw [Nat.pow_add]; exact Nat.mul_le_mul_right _ hms
      exact Nat.le_trans (Nat.le_of_lt hns) (Nat.le_trans p1 p2)
    have hnp : 0 < n := by omega
    have hd1 : 1 ≤ d / n := (Nat.le_div_iff_mul_le hnp).2 (by omega)
    have hqn : q * n ≤ 3 * d := by
      have t1 : (d % n != 0).toNat ≤ 1 := Bool.toNat_le _
      have t2 : q ≤ 3 * (d / n) := by omega
      have t3 := Nat.mul_le_mul_right n t2
      have t4 := Nat.div_mul_le_self d n
      rw [Nat.mul_assoc] at t3
      omega
    -- scale both sides by V y * 2^(mo+1)
    rw [hd, Nat.shiftLeft_eq] at hqn
    have s1 := Nat.mul_le_mul_right (2 ^ (j - f.leastPlace).toNat * 2 ^ (pl - u).toNat * 2 ^ (mo + 1)) hqn
    have L1 : q * n * (2 ^ (j - f.leastPlace).toNat * 2 ^ (pl - u).toNat * 2 ^ (mo + 1)) = q * 2 ^ (pl - u).toNat * (V f (rg f y) * 2 ^ (mo + 1)) := by
      rw [← v2]; simp only [Nat.mul_assoc, Nat.mul_left_comm]
    have R1 : 3 * (m * 2 ^ mo) * (2 ^ (j - f.leastPlace).toNat * 2 ^ (pl - u).toNat * 2 ^ (mo + 1)) = 3 * V f (rg f x) * 2 ^ mo * 2 ^ (-u).toNat := by
      rw [← v1]
      have ex : 2 ^ (j - f.leastPlace).toNat * 2 ^ (pl - u).toNat * 2 ^ (mo + 1) = 2 ^ (i - f.leastPlace).toNat * 2 ^ (-u).toNat := by
        rw [← Nat.pow_add, ← Nat.pow_add, ← Nat.pow_add]; congr 1; omega
      rw [ex]
      simp only [Nat.mul_assoc, Nat.mul_left_comm]
    rw [L1, R1] at s1
    have s2 : q * 2 ^ (pl - u).toNat * (2 ^ b * 2 ^ (mo + 1)) ≤ q * 2 ^ (pl - u).toNat * (V f (rg f y) * 2 ^ (mo + 1)) :=
      Nat.mul_le_mul_left _ (Nat.mul_le_mul_right _ h2)
    have s3 : 3 * V f (rg f x) * 2 ^ mo * 2 ^ (-u).toNat ≤ 2 ^ 2 * 2 ^ a * 2 ^ mo * 2 ^ (-u).toNat :=
      Nat.mul_le_mul_right _ (Nat.mul_le_mul_right _ (Nat.mul_le_mul (by omega) h1))
    have s4 : 2 ^ 2 * 2 ^ a * 2 ^ mo * 2 ^ (-u).toNat ≤ 2 ^ c * 2 ^ (-u).toNat * (2 ^ b * 2 ^ (mo + 1)) := by
      rw [← Nat.pow_add, ← Nat.pow_add, ← Nat.pow_add, ← Nat.pow_add, ← Nat.pow_add, ← Nat.pow_add]
      exact Nat.pow_le_pow_right (by omega) (by omega)
    have s5 : q * 2 ^ (pl - u).toNat * (2 ^ b * 2 ^ (mo + 1)) ≤ 2 ^ c * 2 ^ (-u).toNat * (2 ^ b * 2 ^ (mo + 1)) := by omega
    have s6 := Nat.le_of_mul_le_mul_right s5 (Nat.mul_pos (Nat.two_pow_pos _) (Nat.two_pow_pos _))
    have s7 : 2 ^ c * 2 ^ (-f.leastPlace).toNat * 2 ^ (f.leastPlace - u).toNat = 2 ^ c * 2 ^ (-u).toNat := by
      rw [Nat.mul_assoc, ← Nat.pow_add]; congr 2; omega
    rw [s7]; exact s6
  have g1 := G_mono f (f.leastPlace - u).toNat goal
  have g2 := G_V f (G f (2 ^ c * 2 ^ (-f.leastPlace).toNat) 0) (f.leastPlace - u).toNat
  rw [← up] at g2
  omega

end Go.Proofs.Qxb6608893a.Fl
