/-
  Plain arithmetic on IEEE words, for the float laws of this seat. No Go in sight.
  A finite word is a sign and a rung; 'V' is the rung's magnitude in units of the format's least place;
  'G N L' is the rung nearest to N, N in units of 2^-L of that least place.
-/
import Ieee.Arith
namespace Go.Proofs.Qxb6608893a.Fl
open Ieee

/-! ### rounding a natural number to a multiple, ties to even -/

def rne (n g : Nat) : Nat := n / g + (if g < 2 * (n % g) ∨ (g = 2 * (n % g) ∧ (n / g) % 2 = 1) then 1 else 0)

theorem rne_ge (n g : Nat) : n / g ≤ rne n g := by unfold rne; split <;> omega
theorem rne_le (n g : Nat) : rne n g ≤ n / g + 1 := by unfold rne; split <;> omega

theorem rne_mul (k g : Nat) (hg : 0 < g) : rne (k * g) g = k := by
  unfold rne
  rw [Nat.mul_div_cancel _ hg, Nat.mul_mod_left]
  rw [if_neg (by omega)]; omega

theorem rne_zero (g : Nat) : rne 0 g = 0 := by
  unfold rne; rw [Nat.zero_div, Nat.zero_mod]; rw [if_neg (by omega)]

theorem rne_mono {n m g : Nat} (_hg : 0 < g) (h : n ≤ m) : rne n g ≤ rne m g := by
  have hd : n / g ≤ m / g := Nat.div_le_div_right h
  by_cases e : n / g = m / g
  · unfold rne
    rw [e]
    have h1 := Nat.div_add_mod n g
    have h2 := Nat.div_add_mod m g
    rw [e] at h1
    have h3 : n % g ≤ m % g := by omega
    split <;> split <;> omega
  · have := rne_le n g
    have := rne_ge m g
    omega

theorem rne_scale (n g c : Nat) (hc : 0 < c) : rne (n * c) (g * c) = rne n g := by
  unfold rne
  rw [Nat.mul_div_mul_right _ _ hc, Nat.mul_mod_mul_right]
  have e1 : (g * c < 2 * (n % g * c)) ↔ (g < 2 * (n % g)) := by
    rw [← Nat.mul_assoc]; exact Nat.mul_lt_mul_right hc
  have e2 : (g * c = 2 * (n % g * c)) ↔ (g = 2 * (n % g)) := by
    rw [← Nat.mul_assoc]; exact Nat.mul_right_cancel_iff hc
  simp only [e1, e2]

theorem rne_err (n g : Nat) (hg : 0 < g) : 2 * (rne n g * g) ≤ 2 * n + g ∧ 2 * n ≤ 2 * (rne n g * g) + g := by
  have h1 := Nat.div_add_mod n g
  have h2 := Nat.mod_lt n hg
  have h3 : g * (n / g) = n / g * g := Nat.mul_comm _ _
  unfold rne
  split
  · rw [Nat.add_mul]; omega
  · rw [Nat.add_zero]; omega

theorem rne_one (n : Nat) : rne n 1 = n := by have := rne_mul n 1 (by omega); rwa [Nat.mul_one] at this

/-! ### the model's cut is that rounding -/

theorem cut_even (neg : Bool) (n d : Nat) : Toward.even.cut neg n d = rne n (2 ^ d) := by
  unfold Toward.cut
  simp only [Nat.one_shiftLeft]
  by_cases hd : d ≤ n.log2 + 2
  · rw [Nat.min_eq_left hd]
    unfold rne
    congr 1
    by_cases c : 2 ^ d < 2 * (n % 2 ^ d) ∨ (2 ^ d = 2 * (n % 2 ^ d) ∧ (n / 2 ^ d) % 2 = 1)
    · rw [if_pos c]
      rcases c with c | ⟨c1, c2⟩
      · simp [c]
      · simp [← c1, c2]
    · rw [if_neg c]
      have c1 : ¬ 2 ^ d < 2 * (n % 2 ^ d) := fun h => c (Or.inl h)
      have c2 : ¬ (2 ^ d = 2 * (n % 2 ^ d) ∧ (n / 2 ^ d) % 2 = 1) := fun h => c (Or.inr h)
      simp only [c1, decide_false, Bool.false_or]
      by_cases e : 2 ^ d = 2 * (n % 2 ^ d)
      · have : ¬ (n / 2 ^ d) % 2 = 1 := fun h => c2 ⟨e, h⟩
        simp [this]
      · simp [e]
  · rw [Nat.min_eq_right (by omega)]
    have hlt : n < 2 ^ (n.log2 + 1) := Nat.lt_log2_self
    have p1 : 2 ^ (n.log2 + 2) = 2 * 2 ^ (n.log2 + 1) := by rw [Nat.pow_succ, Nat.mul_comm]
    have p2 : 2 ^ (n.log2 + 2) ≤ 2 ^ d := Nat.pow_le_pow_right (by omega) (by omega)
    have z : ∀ g, 2 * n < g → n / g = 0 ∧ n % g = n := fun g hg => ⟨Nat.div_eq_of_lt (by omega), Nat.mod_eq_of_lt (by omega)⟩
    obtain ⟨a1, a2⟩ := z (2 ^ (n.log2 + 2)) (by omega)
    obtain ⟨b1, b2⟩ := z (2 ^ d) (by omega)
    unfold rne
    rw [a1, a2, b1, b2, if_neg (by omega)]
    have c1 : ¬ 2 ^ (n.log2 + 2) < 2 * n := by omega
    simp [c1]

/-! ### the rung nearest to a natural number -/

/-- the place of the last digit kept, in units -/
def lastOf (f : Format) (N L : Nat) : Nat := max (N.log2 - f.fractionBits) L

def G (f : Format) (N L : Nat) : Nat := (lastOf f N L - L) * f.binade + rne N (2 ^ lastOf f N L)

theorem binade_pos (f : Format) : 0 < f.binade := Nat.two_pow_pos _

theorem log2_mul_pow (m k : Nat) (hm : m ≠ 0) : (m * 2 ^ k).log2 = m.log2 + k := by
  have h0 : m * 2 ^ k ≠ 0 := Nat.mul_ne_zero hm (Nat.ne_of_gt (Nat.two_pow_pos k))
  have h1 := Nat.log2_self_le hm
  have h2 := Nat.lt_log2_self (n := m)
  have h3 : 2 ^ (m.log2 + k) ≤ m * 2 ^ k := by rw [Nat.pow_add]; exact Nat.mul_le_mul_right _ h1
  have h4 : m * 2 ^ k < 2 ^ (m.log2 + k + 1) := by
    rw [show m.log2 + k + 1 = (m.log2 + 1) + k by omega, Nat.pow_add]; exact Nat.mul_lt_mul_of_pos_right h2 (Nat.two_pow_pos k)
  have h5 := (Nat.le_log2 h0).2 h3
  have h6 := (Nat.log2_lt h0).2 h4
  omega

theorem G_zero (f : Format) (L : Nat) : G f 0 L = 0 := by
  unfold G lastOf
  rw [rne_zero, show max (Nat.log2 0 - f.fractionBits) L = L by rw [Nat.log2_zero]; omega]
  simp

/-- the model's 'nearest', in whatever unit 2^u below the number's place and the format's least place -/
theorem nearest_eq (f : Format) (s : Bool) (m : Nat) (p u : Int) (h1 : u ≤ p) (h2 : u ≤ f.leastPlace) :
    f.nearest s m p = f.word s (min (G f (m * 2 ^ (p - u).toNat) (f.leastPlace - u).toNat) f.infRung) := by
  unfold Format.nearest
  by_cases hm : m = 0
  · rw [if_pos hm, hm, Nat.zero_mul, G_zero, Nat.zero_min]
  · rw [if_neg hm]
    dsimp only
    congr 2
    obtain ⟨k, hk⟩ : ∃ k : Nat, p = u + k := ⟨(p - u).toNat, by omega⟩
    obtain ⟨L, hL⟩ : ∃ L : Nat, f.leastPlace = u + L := ⟨(f.leastPlace - u).toNat, by omega⟩
    rw [hL, hk]
    have e1 : (u + (k : Int) - u).toNat = k := by omega
    have e2 : (u + (L : Int) - u).toNat = L := by omega
    rw [e1, e2]
    unfold G
    have hlog := log2_mul_pow m k hm
    obtain ⟨e, he⟩ : ∃ e, e = lastOf f (m * 2 ^ k) L := ⟨_, rfl⟩
    have he' : e = max (m.log2 + k - f.fractionBits) L := by rw [he]; unfold lastOf; rw [hlog]
    have elast : max (u + (k : Int) + (m.log2 : Int) - (f.fractionBits : Int)) (u + (L : Int)) = u + (e : Int) := by omega
    rw [elast, ← he]
    have e3 : (u + (e : Int) - (u + (L : Int))).toNat = e - L := by omega
    rw [e3, cut_even]
    congr 1
    have e4 : (u + (k : Int) - (u + (e : Int))).toNat = k - e := by omega
    have e5 : (u + (e : Int) - (u + (k : Int))).toNat = e - k := by omega
    rw [e4, e5, Nat.shiftLeft_eq]
    by_cases hke : e ≤ k
    · rw [show e - k = 0 by omega, Nat.pow_zero, rne_one]
      have : m * 2 ^ k = m * 2 ^ (k - e) * 2 ^ e := by rw [Nat.mul_assoc, ← Nat.pow_add, show k - e + e = k by omega]
      rw [this, rne_mul _ _ (Nat.two_pow_pos _)]
    · rw [show k - e = 0 by omega, Nat.pow_zero, Nat.mul_one]
      have := rne_scale m (2 ^ (e - k)) (2 ^ k) (Nat.two_pow_pos _)
      rw [← Nat.pow_add, show e - k + k = e by omega] at this
      exact this.symm

theorem G_kept (f : Format) (N L : Nat) : rne N (2 ^ lastOf f N L) ≤ 2 * f.binade := by
  have h : N < 2 ^ (lastOf f N L + f.fractionBits + 1) := by
    by_cases h0 : N = 0
    · rw [h0]; exact Nat.two_pow_pos _
    · refine (Nat.log2_lt h0).1 ?_
      unfold lastOf; omega
  have h' : N ≤ 2 ^ (f.fractionBits + 1) * 2 ^ lastOf f N L := by
    rw [← Nat.pow_add]; refine Nat.le_of_lt ?_; rwa [show f.fractionBits + 1 + lastOf f N L = lastOf f N L + f.fractionBits + 1 by omega]
  have := rne_mono (Nat.two_pow_pos (lastOf f N L)) h'
  rw [rne_mul _ _ (Nat.two_pow_pos _)] at this
  unfold Format.binade
  rw [Nat.pow_succ, Nat.mul_comm] at this
  exact this

theorem G_kept_ge (f : Format) (N L : Nat) (h : L < lastOf f N L) : f.binade ≤ rne N (2 ^ lastOf f N L) := by
  have h0 : N ≠ 0 := by
    intro h0; unfold lastOf at h; rw [h0, Nat.log2_zero] at h; omega
  have hl := Nat.log2_self_le h0
  have : f.binade * 2 ^ lastOf f N L ≤ N := by
    unfold Format.binade
    rw [← Nat.pow_add]
    refine Nat.le_trans (Nat.pow_le_pow_right (by omega) ?_) hl
    unfold lastOf at h ⊢; omega
  have := rne_mono (Nat.two_pow_pos (lastOf f N L)) this
  rwa [rne_mul _ _ (Nat.two_pow_pos _)] at this

theorem lastOf_ge (f : Format) (N L : Nat) : L ≤ lastOf f N L := by unfold lastOf; omega

theorem log2_mono {n m : Nat} (h : n ≤ m) : n.log2 ≤ m.log2 := by
  by_cases h0 : n = 0
  · rw [h0, Nat.log2_zero]; omega
  · refine (Nat.le_log2 (by omega)).2 (Nat.le_trans (Nat.log2_self_le h0) h)

theorem G_mono (f : Format) {N M : Nat} (L : Nat) (h : N ≤ M) : G f N L ≤ G f M L := by
  have hl : lastOf f N L ≤ lastOf f M L := by have := log2_mono h; unfold lastOf; omega
  by_cases e : lastOf f N L = lastOf f M L
  · unfold G; rw [e]; exact Nat.add_le_add_left (rne_mono (Nat.two_pow_pos _) h) _
  · have h1 := G_kept f N L
    have h2 := G_kept_ge f M L (by have := lastOf_ge f N L; omega)
    have h3 := lastOf_ge f N L
    unfold G
    obtain ⟨a, ha⟩ : ∃ a, lastOf f N L - L = a := ⟨_, rfl⟩
    obtain ⟨b, hb⟩ : ∃ b, lastOf f M L - L = b := ⟨_, rfl⟩
    rw [ha, hb]
    have hab : a + 1 ≤ b := by omega
    have := Nat.mul_le_mul_right f.binade hab
    rw [Nat.add_mul] at this
    omega

/-! ### what a rung is worth -/

/-- the magnitude of a rung, in units of the least place -/
def V (f : Format) (r : Nat) : Nat := if r < f.binade then r else (f.binade + r % f.binade) * 2 ^ (r / f.binade - 1)

theorem log2_binade (f : Format) {k : Nat} (h1 : f.binade ≤ k) (h2 : k < 2 * f.binade) : k.log2 = f.fractionBits := by
  have h0 : k ≠ 0 := by have := binade_pos f; omega
  have a := (Nat.le_log2 h0 (k := f.fractionBits)).2 h1
  have b := (Nat.log2_lt h0 (k := f.fractionBits + 1)).2 (by rw [Nat.pow_succ, Nat.mul_comm]; exact h2)
  omega

theorem G_V (f : Format) (r L : Nat) : G f (V f r * 2 ^ L) L = r := by
  unfold V
  have hB := binade_pos f
  by_cases h : r < f.binade
  · rw [if_pos h]
    have e : lastOf f (r * 2 ^ L) L = L := by
      unfold lastOf
      by_cases h0 : r = 0
      · rw [h0, Nat.zero_mul, Nat.log2_zero]; omega
      · rw [log2_mul_pow _ _ h0]
        have := (Nat.log2_lt h0 (k := f.fractionBits)).2 h
        omega
    unfold G
    rw [e, rne_mul _ _ (Nat.two_pow_pos _)]
    simp
  · rw [if_neg h]
    have hm := Nat.mod_lt r hB
    obtain ⟨j, hj⟩ : ∃ j, r / f.binade = j + 1 := ⟨r / f.binade - 1, by have := (Nat.le_div_iff_mul_le hB (x := 1) (y := r)).2 (by omega); omega⟩
    rw [hj, Nat.add_sub_cancel, Nat.mul_assoc, ← Nat.pow_add]
    have hl : (f.binade + r % f.binade).log2 = f.fractionBits := log2_binade f (by omega) (by omega)
    have e : lastOf f ((f.binade + r % f.binade) * 2 ^ (j + L)) L = j + L := by
      unfold lastOf
      rw [log2_mul_pow _ _ (by omega), hl]; omega
    unfold G
    rw [e, rne_mul _ _ (Nat.two_pow_pos _)]
    have := Nat.div_add_mod r f.binade
    rw [hj, Nat.mul_comm, Nat.add_mul] at this
    rw [show j + L - L = j by omega]
    omega

theorem V_mono (f : Format) {r r' : Nat} (h : r ≤ r') : V f r ≤ V f r' := by
  rcases Nat.le_total (V f r) (V f r') with h1 | h1
  · exact h1
  · have := G_mono f 0 h1
    have a := G_V f r 0
    have b := G_V f r' 0
    rw [Nat.pow_zero, Nat.mul_one] at a b
    rw [a, b] at this
    have : r = r' := by omega
    rw [this]; exact Nat.le_refl _

theorem V_le_iff (f : Format) {r r' : Nat} : V f r ≤ V f r' ↔ r ≤ r' := by
  constructor
  · intro h
    have := G_mono f 0 h
    have a := G_V f r 0
    have b := G_V f r' 0
    rw [Nat.pow_zero, Nat.mul_one] at a b
    rwa [a, b] at this
  · exact V_mono f

theorem V_lt_iff (f : Format) {r r' : Nat} : V f r < V f r' ↔ r < r' := by
  have := V_le_iff f (r := r') (r' := r); omega

theorem V_inj (f : Format) {r r' : Nat} (h : V f r = V f r') : r = r' := by
  have a := (V_le_iff f (r := r) (r' := r')).1 (by omega)
  have b := (V_le_iff f (r := r') (r' := r)).1 (by omega)
  omega

theorem V_zero (f : Format) : V f 0 = 0 := by unfold V; rw [if_pos (binade_pos f)]

theorem V_at (f : Format) (a k : Nat) (h1 : k ≤ 2 * f.binade) (h2 : f.binade ≤ k ∨ a = 0) : V f (a * f.binade + k) = k * 2 ^ a := by
  have hB := binade_pos f
  unfold V
  by_cases hk : k < f.binade
  · have : a = 0 := by omega
    subst this
    rw [Nat.zero_mul, Nat.zero_add, if_pos hk, Nat.pow_zero, Nat.mul_one]
  · rw [if_neg (by have := Nat.zero_le (a * f.binade); omega)]
    by_cases hk2 : k = 2 * f.binade
    · have e : a * f.binade + k = (a + 2) * f.binade := by rw [Nat.add_mul]; omega
      rw [e, Nat.mul_mod_left, Nat.mul_div_cancel _ hB, hk2, show a + 2 - 1 = a + 1 by omega, Nat.pow_succ, Nat.add_zero]
      rw [Nat.mul_comm 2, Nat.mul_assoc, Nat.mul_comm (2 ^ a)]
    · obtain ⟨c, hc⟩ : ∃ c, k = f.binade + c := ⟨k - f.binade, by omega⟩
      have e : a * f.binade + k = (a + 1) * f.binade + c := by rw [Nat.add_mul]; omega
      have hcl : c < f.binade := by omega
      rw [e, Nat.mul_comm (a + 1), Nat.mul_add_mod, Nat.mod_eq_of_lt hcl, Nat.mul_add_div hB, Nat.div_eq_of_lt hcl, hc]
      rfl

theorem V_G (f : Format) (N L : Nat) : V f (G f N L) * 2 ^ L = rne N (2 ^ lastOf f N L) * 2 ^ lastOf f N L := by
  have h1 := G_kept f N L
  have h3 := lastOf_ge f N L
  unfold G
  rw [V_at f _ _ h1 (by
    by_cases h : L < lastOf f N L
    · exact Or.inl (G_kept_ge f N L h)
    · exact Or.inr (by omega))]
  rw [Nat.mul_assoc, ← Nat.pow_add, show lastOf f N L - L + L = lastOf f N L by omega]

end Go.Proofs.Qxb6608893a.Fl
