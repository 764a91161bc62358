/-
  The two laws: the comparisons that they make, decided.
-/
import Derived.Test.Qxb6608893aFacts
namespace Go.Proofs.Qxb6608893a
open Ieee Fl Go.RowKit

/-- in the range, as the laws ask it -/
theorem in_range (x : Nat) (h1 : (double.order x 14069238036650688512 == some .gt || double.order x 14069238036650688512 == some .eq) = true)
    (h2 : (double.order x 4845865999795912704 == some .lt || double.order x 4845865999795912704 == some .eq) = true) :
    rg double x < double.infRung ∧ V double (rg double x) ≤ 9000000000000000 * 2 ^ 1074 := by
  obtain ⟨a1, a2, a3⟩ := c9
  obtain ⟨b1, b2, b3⟩ := c9n
  obtain ⟨h, l, u⟩ := fin_of_between double d_bi x _ _ b2 a2 h1 h2
  refine ⟨h, ?_⟩
  rw [sv_eq, sv_eq, b1, b3] at l
  rw [sv_eq, sv_eq, a1, a3] at u
  generalize 9000000000000000 * 2 ^ 1074 = T at *
  generalize V double (rg double x) = v at *
  unfold sg at l u
  cases hs : sgn double x <;> simp [hs] at l u <;> omega

theorem near (s : Bool) (v : Nat) : ∃ H : Nat, H = 2 ^ 1073 ∧ -(H : Int) ≤ sg s v - sg s (wholeOf v * 2 ^ 1074) ∧ sg s v - sg s (wholeOf v * 2 ^ 1074) ≤ H ∧
    (sg s v - sg s (wholeOf v * 2 ^ 1074) = H → ¬ 0 < sg s v) ∧ (sg s v - sg s (wholeOf v * 2 ^ 1074) = -(H : Int) → ¬ sg s v < 0) := by
  obtain ⟨H, hH⟩ : ∃ H : Nat, H = 2 ^ 1073 := ⟨_, rfl⟩
  refine ⟨H, hH, ?_⟩
  have hb := wholeOf_bounds v
  have hU := uh
  rw [← hH] at hb hU
  clear hH
  generalize wholeOf v * 2 ^ 1074 = q at *
  generalize (2 : Nat) ^ 1074 = U at *
  unfold sg
  cases s <;> simp <;> omega

/-- what law 1 needs at x -/
theorem law1_facts (x : Nat) (h1 : (double.order x 14069238036650688512 == some .gt || double.order x 14069238036650688512 == some .eq) = true)
    (h2 : (double.order x 4845865999795912704 == some .lt || double.order x 4845865999795912704 == some .eq) = true) :
    ∃ p m d, MillisIs x p m ∧ floatBits .sub .f64 p (floatOfInt .f64 m) = some d ∧
      (double.order d 4602678819172646912 == some .gt) = false ∧ (double.order d 13826050856027422720 == some .lt) = false ∧
      ((double.order d 4602678819172646912 == some .eq) = true → (double.order p 0 == some .gt) = false) ∧
      ((double.order d 13826050856027422720 == some .eq) = true → (double.order p 0 == some .lt) = false) ∧
      (double.order d 4602678819172646912 == some .lt || double.order d 4602678819172646912 == some .eq) = true ∧
      (double.order d 13826050856027422720 == some .gt || double.order d 13826050856027422720 == some .eq) = true ∧
      m = sg (sgn double x) (msOf (V double (rg double x))) ∧ msOf (V double (rg double x)) ≤ 9000000000000000000 := by
  obtain ⟨hf, hv⟩ := in_range x h1 h2
  obtain ⟨p, rp, hm, hp, hrp, hV, hle⟩ := millis_is x hf hv
  have hi := inf_num
  have hms : msOf (V double (rg double x)) = wholeOf (V double rp) := by rw [hV]; rfl
  obtain ⟨d, hd, hdf, hdv⟩ := gap_is (sgn double x) rp hrp (by omega)
  obtain ⟨w1, w2, w3⟩ := word_vals (sgn double x) rp (by omega)
  rw [← hp] at w1 w2 w3
  obtain ⟨k1, k2, k3⟩ := chalf
  obtain ⟨n1, n2, n3⟩ := cnhalf
  obtain ⟨z1, z2, z3⟩ := czero
  obtain ⟨H, hH, l1, l2, l3, l4⟩ := near (sgn double x) (V double rp)
  rw [← hdv, ← w3] at l3 l4
  rw [← hdv] at l1 l2
  have sk : sv double 4602678819172646912 = (H : Int) := by rw [sv_eq, k1, k3, ← hH]; rfl
  have sn : sv double 13826050856027422720 = -(H : Int) := by rw [sv_eq, n1, n3, ← hH]; rfl
  have sz : sv double 0 = 0 := by rw [sv_eq, z1, z3]; rfl
  have hpf : rg double p < double.infRung := by omega
  refine ⟨p, _, d, hm, ?_, ?_, ?_, ?_, ?_, ?_, ?_, rfl, hle⟩
  · rw [hp, hms]; exact hd
  · rw [ord_gt double _ _ hdf k2, sk]; simp; exact l2
  · rw [ord_lt double _ _ hdf n2, sn]; simp; exact l1
  · rw [ord_eq double _ _ hdf k2, ord_gt double _ _ hpf z2, sk, sz]; intro h; simp at h ⊢; have := l3 h; omega
  · rw [ord_eq double _ _ hdf n2, ord_lt double _ _ hpf z2, sn, sz]; intro h; simp at h ⊢; have := l4 h; omega
  · rw [ord_lt double _ _ hdf k2, ord_eq double _ _ hdf k2, sk]; simp; omega
  · rw [ord_gt double _ _ hdf n2, ord_eq double _ _ hdf n2, sn]; simp; omega

set_option maxRecDepth 100000 in
set_option maxHeartbeats 400000 in
theorem law1 (x : Nat) (w : World) : Calls Try.prog 3 #[.float .f64 x] w fun e w' => e = .returned (.bool true) ∧ w' = w := by
  cases h1 : (FloatKind.f64.format.order x 14069238036650688512 == some .gt || FloatKind.f64.format.order x 14069238036650688512 == some .eq) with
  | false =>
    go_enter Try.func3, Try.ntmps3
    go_wp2
    go_ret
    exact ⟨rfl, rfl⟩
  | true =>
    cases h2 : (FloatKind.f64.format.order x 4845865999795912704 == some .lt || FloatKind.f64.format.order x 4845865999795912704 == some .eq) with
    | false =>
      go_enter Try.func3, Try.ntmps3
      go_wp2
      go_ret
      exact ⟨rfl, rfl⟩
    | true =>
      obtain ⟨p, m, d, hm, hd, f1, f2, f3, f4, -, -, -, -⟩ := law1_facts x h1 h2
      have o1 := fun t w => run_float_arith (P := Try.prog) w .mul t .f64 _ _ p hm.1
      have o2 := fun t w => run_float_arith (P := Try.prog) w .sub t .f64 _ _ d hd
      have hc := fun w => zz_walk x p m hm w
      clear hd hm
      have g1 : (FloatKind.f64.format.order d 4602678819172646912 == some .gt) = false := f1
      have g2 : (FloatKind.f64.format.order d 13826050856027422720 == some .lt) = false := f2
      have g3 : (FloatKind.f64.format.order d 4602678819172646912 == some .eq) = true → (FloatKind.f64.format.order p 0 == some .gt) = false := f3
      have g4 : (FloatKind.f64.format.order d 13826050856027422720 == some .eq) = true → (FloatKind.f64.format.order p 0 == some .lt) = false := f4
      clear f1 f2 f3 f4
      cases e1 : (FloatKind.f64.format.order d 4602678819172646912 == some .eq) <;> cases e2 : (FloatKind.f64.format.order d 13826050856027422720 == some .eq)
      all_goals
        first | have k3 := g3 e1 | skip
        first | have k4 := g4 e2 | skip
        clear g3 g4
        go_enter Try.func3, Try.ntmps3
        go_wp2_with (first | (rw [o1]) | (rw [o2]) | (go_at_call 6; refine (hc _).mono ?_; rintro e w' ⟨rfl, rfl⟩))
        go_ret
        exact ⟨rfl, rfl⟩

theorem xor63 (r : Nat) (hr : r < 9223372036854775808) : r ^^^ 2 ^ 63 = r + 2 ^ 63 := by
  have h1 := Nat.two_pow_add_eq_or_of_lt (i := 63) (b := r) hr 1
  rw [Nat.mul_one] at h1
  rw [Nat.add_comm, h1]
  apply Nat.eq_of_testBit_eq
  intro i
  rw [Nat.testBit_xor, Nat.testBit_or, Nat.testBit_two_pow]
  by_cases h : 63 = i
  · have : r.testBit i = false := Nat.testBit_lt_two_pow (by rw [← h]; exact hr)
    simp [this, h]
  · simp [h]

/-- the negated word -/
theorem neg_word (x : Nat) (hx : x < 18446744073709551616) : rg double (Op.negFloat .f64 x) = rg double x ∧ sgn double (Op.negFloat .f64 x) = !sgn double x := by
  have hs : double.signWeight = 9223372036854775808 := by decide
  have e : Op.negFloat .f64 x = x ^^^ 2 ^ 63 := rfl
  have hr : rg double x < double.signWeight := Nat.mod_lt _ (signWeight_pos _)
  have h1 : x ^^^ 2 ^ 63 = double.word (!sgn double x) (rg double x) := by
    have hw := word_parts x hx
    rw [hs] at hr
    obtain ⟨s, hss⟩ : ∃ s, s = sgn double x := ⟨_, rfl⟩
    obtain ⟨r, hrr⟩ : ∃ r, r = rg double x := ⟨_, rfl⟩
    rw [← hss, ← hrr] at hw ⊢
    rw [← hrr] at hr
    rw [word_num] at hw ⊢
    have hr63 := xor63 r hr
    cases s
    · simp at hw ⊢
      rw [hw]
      have h := hr63
      simp at h
      rw [h]; omega
    · simp at hw ⊢
      rw [hw, Nat.add_comm]
      have h := hr63
      simp at h
      rw [← h, Nat.xor_assoc, Nat.xor_self, Nat.xor_zero]
  rw [e, h1, rg_word double _ hr, sgn_word double _ hr]
  exact ⟨rfl, rfl⟩

theorem ms_le (x y : Nat) (h : sv double x ≤ sv double y) : sg (sgn double x) (msOf (V double (rg double x))) ≤ sg (sgn double y) (msOf (V double (rg double y))) := by
  rw [sv_eq, sv_eq] at h
  have hz := msOf_zero
  generalize V double (rg double x) = v at *
  generalize V double (rg double y) = u at *
  generalize sgn double x = s at *
  generalize sgn double y = t at *
  unfold sg at *
  cases s <;> cases t <;> simp at h ⊢
  · have := msOf_mono (v := v) (v' := u) (by omega); omega
  · have e1 : v = 0 := by omega
    have e2 : u = 0 := by omega
    rw [e1, e2, hz]; simp
  · have := msOf_mono (v := u) (v' := v) (by omega); omega

theorem run_neg_float {P : Program} (w : World) (k : FloatKind) (b : Nat) : (Op.unary .neg (.float k b)).run P w = .ok (.float k (Op.negFloat k b)) w := rfl

theorem sg_not (s : Bool) (n : Nat) : sg (!s) n = - sg s n := by unfold sg; cases s <;> simp

theorem ord_le (x y : Nat) (hx : rg double x < double.infRung) (hy : rg double y < double.infRung)
    (h : (double.order x y == some .lt || double.order x y == some .eq) = true) : sv double x ≤ sv double y := by
  rw [ord_lt double x y hx hy, ord_eq double x y hx hy] at h
  simp at h
  omega

set_option maxRecDepth 100000 in
set_option maxHeartbeats 1000000 in
theorem law2_in (x y : Nat) (hx : x < 18446744073709551616) (w : World)
    (h1 : (FloatKind.f64.format.order x 14069238036650688512 == some .gt || FloatKind.f64.format.order x 14069238036650688512 == some .eq) = true)
    (h2 : (FloatKind.f64.format.order x 4845865999795912704 == some .lt || FloatKind.f64.format.order x 4845865999795912704 == some .eq) = true)
    (h3 : (FloatKind.f64.format.order y 14069238036650688512 == some .gt || FloatKind.f64.format.order y 14069238036650688512 == some .eq) = true)
    (h4 : (FloatKind.f64.format.order y 4845865999795912704 == some .lt || FloatKind.f64.format.order y 4845865999795912704 == some .eq) = true) :
    Calls Try.prog 4 #[.float .f64 x, .float .f64 y] w fun e w' => e = .returned (.bool true) ∧ w' = w := by
  obtain ⟨p, m, d, hm, hd, -, -, -, -, f1, f2, em, bm⟩ := law1_facts x h1 h2
  obtain ⟨py, my, -, hmy, -, -, -, -, -, -, -, emy, bmy⟩ := law1_facts y h3 h4
  obtain ⟨fx, vx⟩ := in_range x h1 h2
  obtain ⟨fy, -⟩ := in_range y h3 h4
  obtain ⟨n1, n2⟩ := neg_word x hx
  obtain ⟨pn, -, hmn, -⟩ := millis_is (Op.negFloat .f64 x) (by rw [n1]; exact fx) (by rw [n1]; exact vx)
  rw [n1, n2, sg_not, ← em] at hmn
  have b1 : -9000000000000000000 ≤ m ∧ m ≤ 9000000000000000000 := by
    rw [em]; generalize msOf (V double (rg double x)) = q at *; unfold sg; split <;> omega
  have b2 : -9000000000000000000 ≤ my ∧ my ≤ 9000000000000000000 := by
    rw [emy]; generalize msOf (V double (rg double y)) = q at *; unfold sg; split <;> omega
  have l1 : (FloatKind.f64.format.order x y == some .lt || FloatKind.f64.format.order x y == some .eq) = true → m ≤ my := by
    intro h; rw [em, emy]; exact ms_le x y (ord_le x y fx fy h)
  have l2 : (FloatKind.f64.format.order y x == some .lt || FloatKind.f64.format.order y x == some .eq) = true → my ≤ m := by
    intro h; rw [em, emy]; exact ms_le y x (ord_le y x fy fx h)
  have o1 := fun t w => run_float_arith (P := Try.prog) w .mul t .f64 _ _ p hm.1
  have o2 := fun t w => run_float_arith (P := Try.prog) w .sub t .f64 _ _ d hd
  have hc := fun w => zz_walk x p m hm w
  have hcy := fun w => zz_walk y py my hmy w
  have hcn := fun w => zz_walk (Op.negFloat .f64 x) pn (-m) hmn w
  have g1 : (FloatKind.f64.format.order d 4602678819172646912 == some .lt || FloatKind.f64.format.order d 4602678819172646912 == some .eq) = true := f1
  have g2 : (FloatKind.f64.format.order d 13826050856027422720 == some .gt || FloatKind.f64.format.order d 13826050856027422720 == some .eq) = true := f2
  have hw : IntKind.i64.wrap (-m) = -m := by simp [IntKind.wrap, IntKind.bits, IntKind.signed]; omega
  clear f1 f2 em bm emy bmy fx vx fy n1 n2 hmn hmy hm hd hx
  cases c1 : (FloatKind.f64.format.order x y == some .lt || FloatKind.f64.format.order x y == some .eq) <;> cases c2 : (FloatKind.f64.format.order y x == some .lt || FloatKind.f64.format.order y x == some .eq)
  all_goals
    first | have k1 := l1 c1 | skip
    first | have k2 := l2 c2 | skip
    clear l1 l2
    go_enter Try.func4, Try.ntmps4
    go_wp2_with (first | (rw [o1]) | (rw [o2]) | (rw [run_neg_float]) | (go_at_call 6; first | (refine (hc _).mono ?_; rintro e w' ⟨rfl, rfl⟩) | (refine (hcy _).mono ?_; rintro e w' ⟨rfl, rfl⟩) | (refine (hcn _).mono ?_; rintro e w' ⟨rfl, rfl⟩)))
    go_ret
    exact ⟨rfl, rfl⟩

set_option maxRecDepth 100000 in
set_option maxHeartbeats 400000 in
theorem law2 (x y : Nat) (hx : x < 18446744073709551616) (w : World) : Calls Try.prog 4 #[.float .f64 x, .float .f64 y] w fun e w' => e = .returned (.bool true) ∧ w' = w := by
  cases h1 : (FloatKind.f64.format.order x 14069238036650688512 == some .gt || FloatKind.f64.format.order x 14069238036650688512 == some .eq) with
  | false =>
    go_enter Try.func4, Try.ntmps4
    go_wp2
    go_ret
    exact ⟨rfl, rfl⟩
  | true =>
    cases h2 : (FloatKind.f64.format.order x 4845865999795912704 == some .lt || FloatKind.f64.format.order x 4845865999795912704 == some .eq) with
    | false =>
      go_enter Try.func4, Try.ntmps4
      go_wp2
      go_ret
      exact ⟨rfl, rfl⟩
    | true =>
      cases h3 : (FloatKind.f64.format.order y 14069238036650688512 == some .gt || FloatKind.f64.format.order y 14069238036650688512 == some .eq) with
      | false =>
        go_enter Try.func4, Try.ntmps4
        go_wp2
        go_ret
        exact ⟨rfl, rfl⟩
      | true =>
        cases h4 : (FloatKind.f64.format.order y 4845865999795912704 == some .lt || FloatKind.f64.format.order y 4845865999795912704 == some .eq) with
        | false =>
          go_enter Try.func4, Try.ntmps4
          go_wp2
          go_ret
          exact ⟨rfl, rfl⟩
        | true => exact law2_in x y hx w h1 h2 h3 h4

end Go.Proofs.Qxb6608893a
