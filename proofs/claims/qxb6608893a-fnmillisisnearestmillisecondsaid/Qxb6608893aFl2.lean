/-
  Words: sign and rung; what order, sum, difference, product and the cut to an integer give, in rungs' magnitudes.
-/
import Derived.Test.Qxb6608893aFl
import Derived.Laws.FloatBits
namespace Go.Proofs.Qxb6608893a.Fl
open Ieee

def sgn (f : Format) (x : Nat) : Bool := x / f.signWeight % 2 == 1
def rg (f : Format) (x : Nat) : Nat := x % f.signWeight
def sv (f : Format) (x : Nat) : Int := if sgn f x then -(V f (rg f x) : Int) else (V f (rg f x) : Int)
/-- a sign and a magnitude as an integer -/
def sg (s : Bool) (n : Nat) : Int := if s then -(n : Int) else (n : Int)

theorem sv_eq (f : Format) (x : Nat) : sv f x = sg (sgn f x) (V f (rg f x)) := rfl

theorem signWeight_pos (f : Format) : 0 < f.signWeight := Nat.two_pow_pos _

theorem rg_word (f : Format) (s : Bool) {r : Nat} (h : r < f.signWeight) : rg f (f.word s r) = r := by
  unfold rg Format.word
  cases s
  · simp [Nat.mod_eq_of_lt h]
  · simp [Nat.mod_eq_of_lt h]

theorem sgn_word (f : Format) (s : Bool) {r : Nat} (h : r < f.signWeight) : sgn f (f.word s r) = s := by
  unfold sgn Format.word
  have hp := signWeight_pos f
  cases s
  · simp [Nat.div_eq_of_lt h]
  · simp [Nat.add_div_left _ hp, Nat.div_eq_of_lt h]

theorem inf_lt (f : Format) : f.infRung < f.signWeight := f.infRung_lt

theorem rg_word' (f : Format) (s : Bool) (n : Nat) : rg f (f.word s (min n f.infRung)) = min n f.infRung :=
  rg_word f s (by have := inf_lt f; omega)
theorem sgn_word' (f : Format) (s : Bool) (n : Nat) : sgn f (f.word s (min n f.infRung)) = s :=
  sgn_word f s (by have := inf_lt f; omega)

theorem word_inj (f : Format) {x y : Nat} (hx : x < 2 * f.signWeight) (hy : y < 2 * f.signWeight) (h1 : sgn f x = sgn f y) (h2 : rg f x = rg f y) : x = y := by
  have a := Nat.div_add_mod x f.signWeight
  have b := Nat.div_add_mod y f.signWeight
  have hp := signWeight_pos f
  have c : x / f.signWeight < 2 := (Nat.div_lt_iff_lt_mul hp).2 hx
  have d : y / f.signWeight < 2 := (Nat.div_lt_iff_lt_mul hp).2 hy
  unfold sgn at h1
  unfold rg at h2
  have e : x / f.signWeight = y / f.signWeight := by
    clear a b
    generalize x / f.signWeight = p at *
    generalize y / f.signWeight = q at *
    have ca : p = 0 ∨ p = 1 := by omega
    have cb : q = 0 ∨ q = 1 := by omega
    rcases ca with ca | ca <;> rcases cb with cb | cb <;> simp [ca, cb] at h1 ⊢
  rw [e] at a
  omega

/-- a finite word reads as a number -/
theorem read_fin (f : Format) (x : Nat) (h : rg f x < f.infRung) :
    ∃ m p, f.read x = .number (sgn f x) m p ∧ f.leastPlace ≤ p ∧ m * 2 ^ (p - f.leastPlace).toNat = V f (rg f x) := by
  unfold Format.read V
  dsimp only
  change ∃ m p, (if rg f x < f.binade then Datum.number (sgn f x) (rg f x) f.leastPlace else if rg f x < f.infRung then
    .number (sgn f x) (f.binade + rg f x % f.binade) (f.leastPlace + (rg f x / f.binade - 1 : Nat)) else if rg f x = f.infRung then .infinity (sgn f x) else .nan (sgn f x) (rg f x - f.infRung)) = _ ∧ _
  by_cases hb : rg f x < f.binade
  · rw [if_pos hb, if_pos hb]
    exact ⟨_, _, rfl, Int.le_refl _, by simp⟩
  · rw [if_neg hb, if_neg hb, if_pos h]
    refine ⟨_, _, rfl, by omega, ?_⟩
    rw [show (f.leastPlace + ((rg f x / f.binade - 1 : Nat) : Int) - f.leastPlace).toNat = rg f x / f.binade - 1 by omega]

theorem read_inf (f : Format) (x : Nat) (h : rg f x = f.infRung) (hb : f.binade ≤ f.infRung) : f.read x = .infinity (sgn f x) := by
  unfold Format.read
  dsimp only
  change (if rg f x < f.binade then Datum.number (sgn f x) (rg f x) f.leastPlace else if rg f x < f.infRung then
    .number (sgn f x) (f.binade + rg f x % f.binade) (f.leastPlace + (rg f x / f.binade - 1 : Nat)) else if rg f x = f.infRung then .infinity (sgn f x) else .nan (sgn f x) (rg f x - f.infRung)) = _
  rw [if_neg (by omega), if_neg (by omega), if_pos h]

theorem read_nan (f : Format) (x : Nat) (h : f.infRung < rg f x) (hb : f.binade ≤ f.infRung) : f.read x = .nan (sgn f x) (rg f x - f.infRung) := by
  unfold Format.read
  dsimp only
  change (if rg f x < f.binade then Datum.number (sgn f x) (rg f x) f.leastPlace else if rg f x < f.infRung then
    .number (sgn f x) (f.binade + rg f x % f.binade) (f.leastPlace + (rg f x / f.binade - 1 : Nat)) else if rg f x = f.infRung then .infinity (sgn f x) else .nan (sgn f x) (rg f x - f.infRung)) = _
  rw [if_neg (by omega), if_neg (by omega), if_neg (by omega)]

theorem signed_eq (s : Bool) (m k : Nat) : signed s m k = sg s (m * 2 ^ k) := by
  unfold signed sg; rw [Nat.shiftLeft_eq]

theorem sg_mul (s : Bool) (n k : Nat) : sg s (n * k) = sg s n * (k : Int) := by
  unfold sg; cases s <;> simp [Int.neg_mul]

theorem sg_natAbs (s : Bool) (n : Nat) : (sg s n).natAbs = n := by unfold sg; cases s <;> simp

theorem cmp_scale (a b : Int) (k : Nat) (hk : 0 < k) : compare (a * (k : Int)) (b * (k : Int)) = compare a b := by
  have hk' : (0 : Int) < (k : Int) := by omega
  rcases Int.lt_trichotomy a b with h | h | h
  · have h' : a * (k : Int) < b * (k : Int) := Int.mul_lt_mul_of_pos_right h hk'
    rw [Int.compare_eq_lt.2 h, Int.compare_eq_lt.2 h']
  · rw [h]; simp
  · have h' : b * (k : Int) < a * (k : Int) := Int.mul_lt_mul_of_pos_right h hk'
    rw [Int.compare_eq_gt.2 h, Int.compare_eq_gt.2 h']

/-- the place of two numbers brought to one base, and on to the least place -/
theorem unit_of (m : Nat) {i b l : Int} (h1 : b ≤ i) (h2 : l ≤ b) : m * 2 ^ (i - b).toNat * 2 ^ (b - l).toNat = m * 2 ^ (i - l).toNat := by
  rw [Nat.mul_assoc, ← Nat.pow_add, show (i - b).toNat + (b - l).toNat = (i - l).toNat by omega]

theorem order_fin (f : Format) (x y : Nat) (hx : rg f x < f.infRung) (hy : rg f y < f.infRung) :
    f.order x y = some (compare (sv f x) (sv f y)) := by
  obtain ⟨m, i, e1, hi, v1⟩ := read_fin f x hx
  obtain ⟨n, j, e2, hj, v2⟩ := read_fin f y hy
  unfold Format.order Datum.order
  rw [e1, e2]
  dsimp only
  rw [signed_eq, signed_eq, sv_eq, sv_eq, ← v1, ← v2]
  rw [← unit_of m (show min i j ≤ i by omega) (show f.leastPlace ≤ min i j by omega), ← unit_of n (show min i j ≤ j by omega) (show f.leastPlace ≤ min i j by omega)]
  rw [sg_mul (sgn f x) (m * _), sg_mul (sgn f y) (n * _), cmp_scale _ _ _ (Nat.two_pow_pos _)]

theorem sum_fin (f : Format) (x y : Nat) (hx : rg f x < f.infRung) (hy : rg f y < f.infRung) :
    f.add x y = some (f.word (if sv f x + sv f y = 0 then sgn f x && sgn f y else decide (sv f x + sv f y < 0)) (min (G f (sv f x + sv f y).natAbs 0) f.infRung)) := by
  obtain ⟨m, i, e1, hi, v1⟩ := read_fin f x hx
  obtain ⟨n, j, e2, hj, v2⟩ := read_fin f y hy
  unfold Format.add Datum.sum
  rw [e1, e2]
  dsimp only
  rw [Option.map_some]
  congr 1
  unfold Format.write
  dsimp only
  rw [signed_eq, signed_eq]
  have hk : sv f x + sv f y = (sg (sgn f x) (m * 2 ^ (i - min i j).toNat) + sg (sgn f y) (n * 2 ^ (j - min i j).toNat)) * ((2 ^ (min i j - f.leastPlace).toNat : Nat) : Int) := by
    rw [Int.add_mul, ← sg_mul, ← sg_mul, unit_of m (show min i j ≤ i by omega) (by omega), unit_of n (show min i j ≤ j by omega) (by omega), v1, v2]; rfl
  obtain ⟨T, hT⟩ : ∃ T, T = sg (sgn f x) (m * 2 ^ (i - min i j).toNat) + sg (sgn f y) (n * 2 ^ (j - min i j).toNat) := ⟨_, rfl⟩
  rw [← hT] at hk ⊢
  obtain ⟨K, hK⟩ : ∃ K, K = 2 ^ (min i j - f.leastPlace).toNat := ⟨_, rfl⟩
  have hKp : 0 < K := by rw [hK]; exact Nat.two_pow_pos _
  rw [nearest_eq f _ _ _ f.leastPlace (by omega) (Int.le_refl _)]
  rw [← hK] at hk ⊢
  have hz : (f.leastPlace - f.leastPlace).toNat = 0 := by omega
  rw [hz, hk, Int.natAbs_mul, Int.natAbs_natCast]
  have hKi : (0 : Int) < (K : Int) := by omega
  have z1 : T * (K : Int) = 0 ↔ T = 0 := by
    constructor
    · intro h; rcases Int.mul_eq_zero.1 h with h | h <;> omega
    · intro h; rw [h, Int.zero_mul]
  have z2 : T * (K : Int) < 0 ↔ T < 0 := by
    constructor
    · intro h
      rcases Int.lt_or_le T 0 with h1 | h1
      · exact h1
      · have := Int.mul_nonneg h1 (Int.le_of_lt hKi); omega
    · intro h; exact Int.mul_neg_of_neg_of_pos h hKi
  simp only [z1, z2]

theorem prod_fin (f : Format) (x y : Nat) (hx : rg f x < f.infRung) (hy : rg f y < f.infRung) (hl : f.leastPlace ≤ 0) :
    f.mul x y = some (f.word (sgn f x ^^ sgn f y) (min (G f (V f (rg f x) * V f (rg f y)) (-f.leastPlace).toNat) f.infRung)) := by
  obtain ⟨m, i, e1, hi, v1⟩ := read_fin f x hx
  obtain ⟨n, j, e2, hj, v2⟩ := read_fin f y hy
  unfold Format.mul Datum.product
  rw [e1, e2]
  dsimp only
  rw [Option.map_some]
  congr 1
  unfold Format.write
  dsimp only
  rw [nearest_eq f _ _ _ (f.leastPlace + f.leastPlace) (by omega) (by omega)]
  have a : (f.leastPlace - (f.leastPlace + f.leastPlace)).toNat = (-f.leastPlace).toNat := by omega
  have b : m * n * 2 ^ (i + j - (f.leastPlace + f.leastPlace)).toNat = V f (rg f x) * V f (rg f y) := by
    rw [← v1, ← v2, show (i + j - (f.leastPlace + f.leastPlace)).toNat = (i - f.leastPlace).toNat + (j - f.leastPlace).toNat by omega, Nat.pow_add]
    simp only [Nat.mul_assoc, Nat.mul_left_comm]
  rw [a, b]

theorem diff_fin (f : Format) (x y : Nat) (hx : rg f x < f.infRung) (hy : rg f y < f.infRung) :
    f.sub x y = some (f.word (if sv f x - sv f y = 0 then sgn f x && !sgn f y else decide (sv f x - sv f y < 0)) (min (G f (sv f x - sv f y).natAbs 0) f.infRung)) := by
  obtain ⟨n, j, e2, hj, v2⟩ := read_fin f y hy
  obtain ⟨y', hy'⟩ : ∃ y', y' = f.word (!sgn f y) (rg f y) := ⟨_, rfl⟩
  have hlt : rg f y < f.signWeight := by have := inf_lt f; omega
  have hr : rg f y' = rg f y := by rw [hy', rg_word f _ hlt]
  have hs : sgn f y' = !sgn f y := by rw [hy', sgn_word f _ hlt]
  have ho : (f.read y).opposite = f.read y' := by
    unfold Format.read
    dsimp only
    change (if rg f y < f.binade then Datum.number (sgn f y) (rg f y) f.leastPlace else if rg f y < f.infRung then
      .number (sgn f y) (f.binade + rg f y % f.binade) (f.leastPlace + (rg f y / f.binade - 1 : Nat)) else if rg f y = f.infRung then .infinity (sgn f y) else .nan (sgn f y) (rg f y - f.infRung)).opposite
      = (if rg f y' < f.binade then Datum.number (sgn f y') (rg f y') f.leastPlace else if rg f y' < f.infRung then
      .number (sgn f y') (f.binade + rg f y' % f.binade) (f.leastPlace + (rg f y' / f.binade - 1 : Nat)) else if rg f y' = f.infRung then .infinity (sgn f y') else .nan (sgn f y') (rg f y' - f.infRung))
    rw [hr, hs]
    by_cases b : rg f y < f.binade
    · rw [if_pos b, if_pos b]; rfl
    · rw [if_neg b, if_neg b, if_pos hy, if_pos hy]; rfl
  have hsub : f.sub x y = f.add x y' := by unfold Format.sub Format.add; rw [ho]
  have hv : sv f y' = - sv f y := by
    rw [sv_eq, sv_eq, hr, hs]; unfold sg; cases sgn f y <;> simp
  rw [hsub, sum_fin f x y' hx (by rw [hr]; exact hy), hv, hs]
  rfl

/-- cut towards zero -/
theorem cut_zero (s : Bool) (n d : Nat) : Toward.zero.cut s n d = n / 2 ^ d := by
  unfold Toward.cut
  simp only [Nat.one_shiftLeft, Bool.toNat_false, Nat.add_zero]
  by_cases hd : d ≤ n.log2 + 2
  · rw [Nat.min_eq_left hd]
  · rw [Nat.min_eq_right (by omega)]
    have hlt : n < 2 ^ (n.log2 + 1) := Nat.lt_log2_self
    have p1 : 2 ^ (n.log2 + 1) ≤ 2 ^ (n.log2 + 2) := Nat.pow_le_pow_right (by omega) (by omega)
    have p2 : 2 ^ (n.log2 + 2) ≤ 2 ^ d := Nat.pow_le_pow_right (by omega) (by omega)
    rw [Nat.div_eq_of_lt (by omega), Nat.div_eq_of_lt (by omega)]

theorem toInt_fin (f : Format) (x : Nat) (hx : rg f x < f.infRung) (hl : f.leastPlace ≤ 0) :
    (f.read x).toInt .zero = some (sg (sgn f x) (V f (rg f x) / 2 ^ (-f.leastPlace).toNat)) := by
  obtain ⟨m, i, e1, hi, v1⟩ := read_fin f x hx
  unfold Datum.toInt Datum.integral
  rw [e1]
  dsimp only
  rw [signed_eq, Nat.pow_zero, Nat.mul_one, cut_zero, Nat.shiftLeft_eq, ← v1]
  congr 2
  by_cases h : 0 ≤ i
  · rw [show (-i).toNat = 0 by omega, Nat.pow_zero, Nat.div_one, show (i - f.leastPlace).toNat = i.toNat + (-f.leastPlace).toNat by omega, Nat.pow_add, ← Nat.mul_assoc, Nat.mul_div_cancel _ (Nat.two_pow_pos _)]
  · rw [show i.toNat = 0 by omega, Nat.pow_zero, Nat.mul_one, show (-f.leastPlace).toNat = (-i).toNat + (i - f.leastPlace).toNat by omega, Nat.pow_add, Nat.mul_div_mul_right _ _ (Nat.two_pow_pos _)]

/-- an integer as a float -/
theorem ofInt_eq (f : Format) (n : Int) (hl : f.leastPlace ≤ 0) :
    f.write (.number (n < 0) n.natAbs 0) = f.word (n < 0) (min (G f (n.natAbs * 2 ^ (-f.leastPlace).toNat) 0) f.infRung) := by
  unfold Format.write
  dsimp only
  rw [nearest_eq f _ _ _ f.leastPlace (by omega) (Int.le_refl _), show (f.leastPlace - f.leastPlace).toNat = 0 by omega, show ((0 : Int) - f.leastPlace).toNat = (-f.leastPlace).toNat by omega]

end Go.Proofs.Qxb6608893a.Fl
