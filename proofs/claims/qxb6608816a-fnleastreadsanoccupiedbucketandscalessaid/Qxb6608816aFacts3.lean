/-
  From words to magnitudes: the checks on a count, its double, the float sums, and ZZleast by its contract.
-/
import Derived.Test.Qxb6608816aFacts2
namespace Go.Proofs.Qxb6608816a
open Ieee Fl Go.RowKit

/-- a count's magnitude -/
def mg (c : Nat) : Nat := V single (rg single c)

/-- a count that the check lets by, up to 2^m units -/
def Nice (m c : Nat) : Prop := rg single c < single.infRung ∧ (mg c = 0 ∨ (sgn single c = false ∧ 2 ^ 82 ≤ mg c)) ∧ mg c ≤ 2 ^ m

theorem c_lo : sgn single 507307272 = false ∧ rg single 507307272 < single.infRung ∧ 2 ^ 82 ≤ V single (rg single 507307272) := by decide +kernel
theorem c_hi : sgn single 1900671690 = false ∧ rg single 1900671690 < single.infRung ∧ V single (rg single 1900671690) ≤ 2 ^ 249 := by decide +kernel
theorem c_two : sgn single 1073741824 = false ∧ rg single 1073741824 < single.infRung ∧ V single (rg single 1073741824) = 2 * 2 ^ 149 := by decide +kernel

theorem mg_of_sv (c : Nat) (h : sv single c = 0) : mg c = 0 := by
  rw [sv_eq] at h
  unfold mg
  have := sg_natAbs (sgn single c) (V single (rg single c))
  rw [h] at this
  simpa using this.symm

theorem sv_nice (m c : Nat) (h : Nice m c) : sv single c = (mg c : Int) := by
  rcases h.2.1 with h0 | ⟨h0, _⟩
  · rw [sv_eq]
    have : V single (rg single c) = 0 := h0
    rw [h0, this]
    unfold sg; cases sgn single c <;> rfl
  · exact sv_pos single c h0

theorem nice_zero (c : Nat) (h : (single.order c 0 == some .eq) = true) : Nice 249 c ∧ mg c = 0 := by
  obtain ⟨hf, hs⟩ := fin_of_eq single s_bi c 0 c0.2.1 h
  rw [sv0] at hs
  have hm := mg_of_sv c hs
  exact ⟨⟨hf, Or.inl hm, by rw [hm]; exact Nat.zero_le _⟩, hm⟩

theorem nice_of (c : Nat) (h1 : (single.order c 507307272 == some .gt || single.order c 507307272 == some .eq) = true) (h2 : (single.order c 1900671690 == some .lt || single.order c 1900671690 == some .eq) = true) : Nice 249 c := by
  obtain ⟨a1, a2, a3⟩ := c_lo
  obtain ⟨b1, b2, b3⟩ := c_hi
  obtain ⟨hf, hlo, hhi⟩ := fin_of_between single s_bi c _ _ a2 b2 h1 h2
  rw [sv_pos single _ a1] at hlo
  rw [sv_pos single _ b1] at hhi
  have hpos : 0 ≤ sv single c := by omega
  have hv : sv single c = (mg c : Int) := neg_of c hpos
  rw [hv] at hlo hhi
  have h82 : 2 ^ 82 ≤ mg c := by omega
  refine ⟨hf, Or.inr ⟨?_, h82⟩, by omega⟩
  cases hs : sgn single c
  · rfl
  · rw [sv_eq, hs] at hv
    unfold sg at hv
    simp at hv
    unfold mg at hv h82
    omega

/-- not nought: the comparison with 0 -/
theorem ne_zero (m c : Nat) (h : Nice m c) (h0 : mg c ≠ 0) : (single.order c 0 != some .eq) = true := by
  have := ord_eq single c 0 h.1 c0.2.1
  rw [sv_nice m c h, sv0] at this
  unfold bne
  rw [this]
  simp
  exact h0
theorem eq_zero (m c : Nat) (h : Nice m c) (h0 : mg c = 0) : (single.order c 0 != some .eq) = false := by
  have := ord_eq single c 0 h.1 c0.2.1
  rw [sv_nice m c h, sv0] at this
  unfold bne
  rw [this, h0]
  simp

theorem twice_of (c : Nat) (h : Nice 249 c) : ∃ y, floatBits .mul .f32 c 1073741824 = some y ∧ Nice 250 y ∧ mg y = 2 * mg c := by
  obtain ⟨a1, a2, a3⟩ := c_two
  obtain ⟨hf, hv, hm⟩ := h
  have hp := prod_fin single c 1073741824 hf a2 s_lp0
  rw [a1, a3, s_lp] at hp
  have hmg : V single (rg single c) = mg c := rfl
  rw [hmg] at hp
  have hx : (sgn single c ^^ false) = sgn single c := by cases sgn single c <;> rfl
  rw [hx] at hp
  have e : mg c * (2 * 2 ^ 149) = 2 * (mg c * 2 ^ 149) := by rw [Nat.mul_left_comm]
  rw [e] at hp
  by_cases h0 : mg c = 0
  · rw [h0, Nat.zero_mul, Nat.mul_zero, G_zero, Nat.zero_min] at hp
    refine ⟨_, hp, ?_, ?_⟩
    · have hr := rg_word single (sgn single c) (r := 0) (signWeight_pos single)
      have hm0 : mg (single.word (sgn single c) 0) = 0 := by unfold mg; rw [hr, V_zero]
      refine ⟨by rw [hr]; exact Nat.lt_of_lt_of_le (binade_pos single) s_bi, Or.inl hm0, by rw [hm0]; exact Nat.zero_le _⟩
    · unfold mg; rw [rg_word single (sgn single c) (r := 0) (signWeight_pos single), V_zero]; unfold mg at h0; rw [h0]
  · have h82 : sgn single c = false ∧ 2 ^ 82 ≤ mg c := by
      rcases hv with hv | hv
      · exact absurd hv h0
      · exact hv
    have hb : 2 ^ (149 + single.fractionBits) ≤ mg c * 2 ^ 149 := by
      rw [Nat.add_comm, Nat.pow_add, s_fr]
      exact Nat.mul_le_mul_right _ (by omega)
    rw [G_double single _ 149 hb] at hp
    have hg : G single (mg c * 2 ^ 149) 149 = rg single c := by rw [← hmg]; exact G_V single (rg single c) 149
    rw [hg] at hp
    have hbr : single.binade ≤ rg single c := by rw [← hg]; exact G_binade single _ 149 hb
    have hV2 : V single (rg single c + single.binade) = 2 * mg c := V_double single hbr
    have hlt : rg single c + single.binade < single.infRung := by
      refine lt_inf single ?_
      rw [hV2, s_inf]
      omega
    rw [Nat.min_eq_left (by omega), h82.1] at hp
    obtain ⟨w1, w2, _⟩ := word_false single (rg single c + single.binade) (by omega)
    have hmy : mg (single.word false (rg single c + single.binade)) = 2 * mg c := by unfold mg; rw [w2]; exact hV2
    refine ⟨_, hp, ⟨by rw [w2]; exact hlt, Or.inr ⟨w1, by omega⟩, by omega⟩, hmy⟩

theorem add_nice (t c : Nat) (hc : Nice 250 c) (ht : t < single.infRung) (hs : G single (V single t + mg c) 0 < single.infRung) :
    floatBits .add .f32 (single.word false t) c = some (single.word false (G single (V single t + mg c) 0)) := by
  obtain ⟨w1, w2, w3⟩ := word_false single t (by omega)
  have h := sum_fin single (single.word false t) c (by rw [w2]; exact ht) hc.1
  have hv := sv_nice 250 c hc
  rw [w3, w1, hv] at h
  have hab : ((V single t : Int) + (mg c : Int)).natAbs = V single t + mg c := by omega
  have hsg : (if (V single t : Int) + (mg c : Int) = 0 then false && sgn single c else decide ((V single t : Int) + (mg c : Int) < 0)) = false := by
    split
    · rfl
    · rw [decide_eq_false]; omega
  rw [hsg, hab, Nat.min_eq_left (by omega)] at h
  exact h

theorem gt_word (a l : Nat) (ha : a < single.infRung) (hl : l < single.infRung) : (single.order (single.word false a) (single.word false l) == some .gt) = decide (V single l < V single a) := by
  obtain ⟨_, a2, a3⟩ := word_false single a (by omega)
  obtain ⟨_, l2, l3⟩ := word_false single l (by omega)
  rw [ord_gt single _ _ (by rw [a2]; exact ha) (by rw [l2]; exact hl), a3, l3, decide_eq_decide]
  omega

theorem word0 : single.word false 0 = 0 := rfl

theorem zz_nice (cs : Array Value) (x : Nat → Nat) (iv : Int) (thr : Nat) (r : Int) (hsz : Hid (cs.size = 256)) (hx : Hid (∀ k, k < 256 → cs[k]? = some (.float .f32 (x k))))
    (HN : Hid (∀ j, Nice 250 (x j))) (HR : Hid (Res (fun j => mg (x j)) iv thr r)) (h1 : 1 ≤ iv) (h2 : iv ≤ 1099511627776) (w : World) :
    Calls Try.prog 5 #[.agg cs, .int .i64 iv, .float .f64 thr] w fun e w' => e = .returned (.int .i64 r) ∧ w' = (w.alloc (.cells cs 23)).alloc (.cells cs 31) := by
  obtain ⟨v, hv⟩ : ∃ v : Nat → Nat, v = fun j => mg (x j) := ⟨_, rfl⟩
  have hok : Okv v := fun k => by
    rw [hv]
    rcases (HN.out k).2.1 with h | h
    · exact Or.inl h
    · exact Or.inr h.2
  have hM : ∀ k, v k ≤ 2 ^ 250 := fun k => by rw [hv]; exact (HN.out k).2.2
  have hMr : ∀ k, rev v k ≤ 2 ^ 250 := fun k => hM (255 - k)
  have HR' : Res v iv thr r := by rw [hv]; exact HR.out
  clear HR
  have hT0 : single.word false (tseq v 0) = 0 := rfl
  have hT : ∀ k, k < 256 → floatBits .add .f32 (single.word false (tseq v k)) (x k) = some (single.word false (tseq v (k + 1))) := fun k hk => by
    have hi := t_inf v hM (k + 1) (by omega)
    have e : tseq v (k + 1) = G single (V single (tseq v k) + mg (x k)) 0 := by simp only [tseq, hv]
    rw [e] at hi ⊢
    exact add_nice _ _ (HN.out k) (t_inf v hM k (by omega)) hi
  have hpos : (single.order (single.word false (tseq v 256)) 0 == some .gt) = decide (0 < V single (tseq v 256)) := by
    have := gt_word (tseq v 256) 0 (t_inf v hM 256 (by omega)) (Nat.lt_of_lt_of_le (binade_pos single) s_bi)
    rw [word0, V_zero] at this
    exact this
  have hz := t_zero v hok 256
  rcases HR' with ⟨h0, rfl⟩ | ⟨h0, bb, b1, b2, b3, b4, b5⟩
  · exact zz_zero cs x (fun k => single.word false (tseq v k)) hsz hx hT0 hT (hpos.trans (by rw [hz.2 h0]; rfl)) iv thr w
  · have hbig : 2 ^ 82 ≤ V single (tseq v 256) := by
      rcases t_low v hok 256 with hq | hq
      · exact absurd (hz.1 hq) h0
      · exact hq
    have a : 0 ≤ ((bb : Int) + 1) * iv := Int.mul_nonneg (by omega) (by omega)
    have c : ((bb : Int) + 1) * iv ≤ 256 * 1099511627776 := Int.mul_le_mul (by omega) h2 (by omega) (by omega)
    have ainf : ∀ b, aseq v b < single.infRung := fun b => t_inf (rev v) hMr (256 - b) (by omega)
    have linf : lim v < single.infRung := by
      have h3 := ainf bb
      have := (V_lt_iff single).1 b3
      omega
    have hL : floatBits .mul .f32 (single.word false (tseq v 256)) 1008981770 = some (single.word false (lim v)) := by
      obtain ⟨w1, w2, _⟩ := word_false single (tseq v 256) (by have := t_inf v hM 256 (by omega); omega)
      have h := prod_fin single (single.word false (tseq v 256)) 1008981770 (by rw [w2]; exact t_inf v hM 256 (by omega)) c01.2.1 s_lp0
      rw [w1, w2, c01.1, s_lp] at h
      have e : G single (V single (tseq v 256) * V single (rg single 1008981770)) 149 = lim v := rfl
      rw [e, Nat.min_eq_left (by omega)] at h
      exact h
    have hA : ∀ b, b < 256 → floatBits .add .f32 (single.word false (aseq v (b + 1))) (x b) = some (single.word false (aseq v b)) := fun b hb => by
      have hi := ainf b
      have e : aseq v b = G single (V single (aseq v (b + 1)) + mg (x b)) 0 := by rw [a_step v b hb, hv]
      rw [e] at hi ⊢
      exact add_nice _ _ (HN.out b) (ainf (b + 1)) hi
    refine zz_pos cs x (fun k => single.word false (tseq v k)) (fun b => single.word false (aseq v b)) (single.word false (lim v)) bb hsz hx hT0 hT (hpos.trans (by rw [decide_eq_true]; omega)) rfl hA hL b1 ?_ ?_ iv thr r a (by omega) b5 w
    · exact (gt_word (aseq v bb) (lim v) (ainf bb) linf).trans (by rw [decide_eq_true]; exact b3)
    · intro b hb hb'
      exact (gt_word (aseq v b) (lim v) (ainf b) linf).trans (by rw [decide_eq_false]; have := b4 b hb hb'; omega)

end Go.Proofs.Qxb6608816a
