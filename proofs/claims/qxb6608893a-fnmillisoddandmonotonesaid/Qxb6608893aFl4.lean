/-
  Comparisons of words, read as comparisons of integers; single and double in numbers.
-/
import Derived.Test.Qxb6608893aFl3
namespace Go.Proofs.Qxb6608893a.Fl
open Ieee

theorem ord_gt (f : Format) (x y : Nat) (hx : rg f x < f.infRung) (hy : rg f y < f.infRung) : (f.order x y == some .gt) = decide (sv f y < sv f x) := by
  rw [order_fin f x y hx hy, Bool.eq_iff_iff]
  simp [Int.compare_eq_gt]
theorem ord_lt (f : Format) (x y : Nat) (hx : rg f x < f.infRung) (hy : rg f y < f.infRung) : (f.order x y == some .lt) = decide (sv f x < sv f y) := by
  rw [order_fin f x y hx hy, Bool.eq_iff_iff]
  simp [Int.compare_eq_lt]
theorem ord_eq (f : Format) (x y : Nat) (hx : rg f x < f.infRung) (hy : rg f y < f.infRung) : (f.order x y == some .eq) = decide (sv f x = sv f y) := by
  rw [order_fin f x y hx hy, Bool.eq_iff_iff]
  simp

theorem order_nan_left (f : Format) (x y : Nat) (h : f.infRung < rg f x) (hb : f.binade ≤ f.infRung) : f.order x y = none := by
  unfold Format.order
  rw [read_nan f x h hb]
  rfl

theorem order_inf_left (f : Format) (x y : Nat) (h : rg f x = f.infRung) (hb : f.binade ≤ f.infRung) (hy : rg f y < f.infRung) : f.order x y = some (if sgn f x then .lt else .gt) := by
  obtain ⟨m, i, e1, _, _⟩ := read_fin f y hy
  unfold Format.order
  rw [read_inf f x h hb, e1]
  rfl

/-- x >= lo and x <= hi -/
theorem fin_of_between (f : Format) (hb : f.binade ≤ f.infRung) (x lo hi : Nat) (hlo : rg f lo < f.infRung) (hhi : rg f hi < f.infRung)
    (h1 : (f.order x lo == some .gt || f.order x lo == some .eq) = true) (h2 : (f.order x hi == some .lt || f.order x hi == some .eq) = true) :
    rg f x < f.infRung ∧ sv f lo ≤ sv f x ∧ sv f x ≤ sv f hi := by
  rcases Nat.lt_trichotomy (rg f x) f.infRung with h | h | h
  · rw [ord_gt f x lo h hlo, ord_eq f x lo h hlo] at h1
    rw [ord_lt f x hi h hhi, ord_eq f x hi h hhi] at h2
    simp at h1 h2
    exact ⟨h, by omega, by omega⟩
  · rw [order_inf_left f x lo h hb hlo] at h1
    rw [order_inf_left f x hi h hb hhi] at h2
    cases hs : sgn f x <;> simp [hs] at h1 h2
  · rw [order_nan_left f x lo h hb] at h1
    simp at h1

/-- x >= lo -/
theorem ge_cases (f : Format) (hb : f.binade ≤ f.infRung) (x lo : Nat) (hlo : rg f lo < f.infRung)
    (h1 : (f.order x lo == some .gt || f.order x lo == some .eq) = true) :
    (rg f x < f.infRung ∧ sv f lo ≤ sv f x) ∨ (rg f x = f.infRung ∧ sgn f x = false) := by
  rcases Nat.lt_trichotomy (rg f x) f.infRung with h | h | h
  · rw [ord_gt f x lo h hlo, ord_eq f x lo h hlo] at h1
    simp at h1
    exact Or.inl ⟨h, by omega⟩
  · rw [order_inf_left f x lo h hb hlo] at h1
    cases hs : sgn f x <;> simp [hs] at h1
    exact Or.inr ⟨h, rfl⟩
  · rw [order_nan_left f x lo h hb] at h1
    simp at h1

/-- x == y -/
theorem fin_of_eq (f : Format) (hb : f.binade ≤ f.infRung) (x y : Nat) (hy : rg f y < f.infRung) (h1 : (f.order x y == some .eq) = true) : rg f x < f.infRung ∧ sv f x = sv f y := by
  rcases Nat.lt_trichotomy (rg f x) f.infRung with h | h | h
  · rw [ord_eq f x y h hy] at h1
    simp at h1
    exact ⟨h, h1⟩
  · rw [order_inf_left f x y h hb hy] at h1
    cases hs : sgn f x <;> simp [hs] at h1
  · rw [order_nan_left f x y h hb] at h1
    simp at h1

/-! ### the two formats -/
theorem s_lp : (-single.leastPlace).toNat = 149 := by decide
theorem s_lp0 : single.leastPlace ≤ 0 := by decide
theorem s_fr : single.fractionBits = 23 := rfl
theorem s_inf : V single single.infRung = 2 ^ 277 := by decide +kernel
theorem s_bi : single.binade ≤ single.infRung := by decide
theorem s_b : single.binade = 8388608 := by decide
theorem d_lp : (-double.leastPlace).toNat = 1074 := by decide
theorem d_lp0 : double.leastPlace ≤ 0 := by decide
theorem d_fr : double.fractionBits = 52 := rfl
theorem d_inf : V double double.infRung = 2 ^ 2098 := by decide +kernel
theorem d_bi : double.binade ≤ double.infRung := by decide

/-- a word with the sign off -/
theorem sv_pos (f : Format) (x : Nat) (h : sgn f x = false) : sv f x = (V f (rg f x) : Int) := by rw [sv_eq, h]; rfl

theorem word_false (f : Format) (r : Nat) (h : r ≤ f.infRung) : sgn f (f.word false r) = false ∧ rg f (f.word false r) = r ∧ sv f (f.word false r) = (V f r : Int) := by
  have hl := inf_lt f
  have a := sgn_word f false (r := r) (by omega)
  have b := rg_word f false (r := r) (by omega)
  refine ⟨a, b, ?_⟩
  rw [sv_pos f _ a, b]

theorem lt_inf (f : Format) {r : Nat} (h : V f r < V f f.infRung) : r < f.infRung := (V_lt_iff f).1 h

end Go.Proofs.Qxb6608893a.Fl
