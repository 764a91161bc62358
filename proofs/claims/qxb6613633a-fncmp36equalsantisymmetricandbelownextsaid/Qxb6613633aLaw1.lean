/-
  The first law walked.
-/
import Derived.Test.Qxb6613633aLaw2
namespace Go.Proofs.Qxb6613633a
open Go.RowKit

set_option maxRecDepth 100000 in
set_option maxHeartbeats 1000000 in
theorem law1_zero (ah al ae : Int) (an : Bool) (bh bl be : Int) (bn : Bool) (c : Int)
    (ka : Hid (canon ah al ae an = true)) (kb : Hid (canon bh bl be bn = true))
    (v1 : Hid (cmpD ah al ae an bh bl be bn = c)) (v2 : Hid (cmpD bh bl be bn ah al ae an = -c)) (rc : Hid (c = -1 ∨ c = 0 ∨ c = 1))
    (v0 : Hid (c = 0 ↔ ah = bh ∧ al = bl ∧ ae = be ∧ an = bn)) (z : (ah != 0) = false) (w : World) :
    Calls Try.prog 3 #[.int .u64 ah, .int .u64 al, .int .i32 ae, .bool an, .int .u64 bh, .int .u64 bl, .int .i32 be, .bool bn] w
      fun e w' => e = .returned (.bool true) ∧ Below w.heap.size w w' := by
  go_enter Try.func3, Try.ntmps3
  go_wp2_with fail
  refine (canonv _ _ _ _ true ka.out _).mono ?_
  rintro e w' ⟨rfl, rfl⟩
  go_wp2_with fail
  refine (canonv _ _ _ _ true kb.out _).mono ?_
  rintro e w' ⟨rfl, rfl⟩
  go_wp2_with (first | (go_at_call 6; refine (new36 _ _ _ _ _).mono ?_; rintro e w' ⟨rfl, rfl⟩))
  refine (zzv _ _ _ _ _ _ _ _ c v1.out _).mono ?_
  rintro e1 w1 ⟨rfl, b1⟩
  have x1 := (((Box.new (w'.alloc _) ah al ae an (k := w'.heap.size + 1) (by rw [alloc_size])).alloc _).alloc _).keep b1
  have y1 := (Box.new (((w'.alloc _).alloc _).alloc _) bh bl be bn (k := w'.heap.size + 1 + 1 + 1) (by rw [alloc_size, alloc_size, alloc_size])).keep b1
  have B1 := below_call (below_alloc (below_alloc (below_alloc (below_alloc (Below.refl w'.heap.size w') _) _) _) _) b1
  clear b1
  have xa := x1.c0
  have xb := x1.c1
  have xc := x1.c2
  have xd := x1.c3
  have ya := y1.c0
  have yb := y1.c1
  have yc := y1.c2
  have yd := y1.c3
  go_wp2_with fail
  clear xa xb xc xd ya yb yc yd
  refine (zzv _ _ _ _ _ _ _ _ (-c) v2.out _).mono ?_
  rintro e2 w2 ⟨rfl, b2⟩
  have x2 := x1.keep b2
  have B2 := below_call B1 b2
  clear x1 y1 B1 b2
  have hw : IntKind.i64.wrap (-c) = -c := by rcases rc.out with r | r | r <;> rw [r] <;> decide
  have hc1 : ¬ c < -1 := by rcases rc.out with r | r | r <;> omega
  have hc2 : ¬ 1 < c := by rcases rc.out with r | r | r <;> omega
  go_upto_region 11 with fail
  go_cut [21] (fun b wq => b = .bool (decide (c = 0)) ∧ wq = w2)
  case first =>
    have hz := v0.out
    by_cases q1 : ah = bh
    · by_cases q2 : al = bl
      · by_cases q3 : ae = be
        · have hd : decide (c = 0) = (an == bn) := by
            rw [Bool.eq_iff_iff]; simp [hz, q1, q2, q3]
          subst q1
          subst q2
          subst q3
          clear hz
          go_wp2_with fail
          go_meet
          case rel => exact ⟨congrArg Value.bool hd.symm, rfl⟩
        · have hd : decide (c = 0) = false := by simp [hz, q3]
          have q3' : (ae == be) = false := by simp [q3]
          subst q1
          subst q2
          clear hz
          go_wp2_with fail
          go_meet
          case rel => exact ⟨congrArg Value.bool hd.symm, rfl⟩
      · have hd : decide (c = 0) = false := by simp [hz, q2]
        have q2' : (al == bl) = false := by simp [q2]
        subst q1
        clear hz
        go_wp2_with fail
        go_meet
        case rel => exact ⟨congrArg Value.bool hd.symm, rfl⟩
    · have hd : decide (c = 0) = false := by simp [hz, q1]
      have q1' : (ah == bh) = false := by simp [q1]
      clear hz
      go_wp2_with fail
      go_meet
      case rel => exact ⟨congrArg Value.bool hd.symm, rfl⟩
  case rest =>
    obtain ⟨rfl, rfl⟩ := hcut
    have hcc : (!((c == 0) == decide (c = 0))) = false := by by_cases h : c = 0 <;> simp [h]
    go_wp2_with fail
    go_ret
    exact ⟨rfl, B2⟩

set_option maxRecDepth 100000 in
set_option maxHeartbeats 1000000 in
theorem law1_none (ah al ae : Int) (an : Bool) (bh bl be : Int) (bn : Bool) (c : Int)
    (ka : Hid (canon ah al ae an = true)) (kb : Hid (canon bh bl be bn = true))
    (v1 : Hid (cmpD ah al ae an bh bl be bn = c)) (v2 : Hid (cmpD bh bl be bn ah al ae an = -c)) (rc : Hid (c = -1 ∨ c = 0 ∨ c = 1))
    (v0 : Hid (c = 0 ↔ ah = bh ∧ al = bl ∧ ae = be ∧ an = bn)) (z : (ah != 0) = true)
    (nx : Hid (∀ w : World, Calls Try.prog 8 #[.int .u64 ah, .int .u64 al, .int .i32 ae] w fun e' w' => e' = .returned (.tuple #[.int .u64 0, .int .u64 0, .int .i32 0, .bool false]) ∧ w' = w)) (w : World) :
    Calls Try.prog 3 #[.int .u64 ah, .int .u64 al, .int .i32 ae, .bool an, .int .u64 bh, .int .u64 bl, .int .i32 be, .bool bn] w
      fun e w' => e = .returned (.bool true) ∧ Below w.heap.size w w' := by
  go_enter Try.func3, Try.ntmps3
  go_wp2_with fail
  refine (canonv _ _ _ _ true ka.out _).mono ?_
  rintro e w' ⟨rfl, rfl⟩
  go_wp2_with fail
  refine (canonv _ _ _ _ true kb.out _).mono ?_
  rintro e w' ⟨rfl, rfl⟩
  go_wp2_with (first | (go_at_call 6; refine (new36 _ _ _ _ _).mono ?_; rintro e w' ⟨rfl, rfl⟩))
  refine (zzv _ _ _ _ _ _ _ _ c v1.out _).mono ?_
  rintro e1 w1 ⟨rfl, b1⟩
  have x1 := (((Box.new (w'.alloc _) ah al ae an (k := w'.heap.size + 1) (by rw [alloc_size])).alloc _).alloc _).keep b1
  have y1 := (Box.new (((w'.alloc _).alloc _).alloc _) bh bl be bn (k := w'.heap.size + 1 + 1 + 1) (by rw [alloc_size, alloc_size, alloc_size])).keep b1
  have B1 := below_call (below_alloc (below_alloc (below_alloc (below_alloc (Below.refl w'.heap.size w') _) _) _) _) b1
  clear b1
  have xa := x1.c0
  have xb := x1.c1
  have xc := x1.c2
  have xd := x1.c3
  have ya := y1.c0
  have yb := y1.c1
  have yc := y1.c2
  have yd := y1.c3
  go_wp2_with fail
  clear xa xb xc xd ya yb yc yd
  refine (zzv _ _ _ _ _ _ _ _ (-c) v2.out _).mono ?_
  rintro e2 w2 ⟨rfl, b2⟩
  have x2 := x1.keep b2
  have B2 := below_call B1 b2
  clear x1 y1 B1 b2
  have hw : IntKind.i64.wrap (-c) = -c := by rcases rc.out with r | r | r <;> rw [r] <;> decide
  have hc1 : ¬ c < -1 := by rcases rc.out with r | r | r <;> omega
  have hc2 : ¬ 1 < c := by rcases rc.out with r | r | r <;> omega
  go_upto_region 11 with fail
  go_cut [21] (fun b wq => b = .bool (decide (c = 0)) ∧ wq = w2)
  case first =>
    have hz := v0.out
    by_cases q1 : ah = bh
    · by_cases q2 : al = bl
      · by_cases q3 : ae = be
        · have hd : decide (c = 0) = (an == bn) := by
            rw [Bool.eq_iff_iff]; simp [hz, q1, q2, q3]
          subst q1
          subst q2
          subst q3
          clear hz
          go_wp2_with fail
          go_meet
          case rel => exact ⟨congrArg Value.bool hd.symm, rfl⟩
        · have hd : decide (c = 0) = false := by simp [hz, q3]
          have q3' : (ae == be) = false := by simp [q3]
          subst q1
          subst q2
          clear hz
          go_wp2_with fail
          go_meet
          case rel => exact ⟨congrArg Value.bool hd.symm, rfl⟩
      · have hd : decide (c = 0) = false := by simp [hz, q2]
        have q2' : (al == bl) = false := by simp [q2]
        subst q1
        clear hz
        go_wp2_with fail
        go_meet
        case rel => exact ⟨congrArg Value.bool hd.symm, rfl⟩
    · have hd : decide (c = 0) = false := by simp [hz, q1]
      have q1' : (ah == bh) = false := by simp [q1]
      clear hz
      go_wp2_with fail
      go_meet
      case rel => exact ⟨congrArg Value.bool hd.symm, rfl⟩
  case rest =>
    obtain ⟨rfl, rfl⟩ := hcut
    have hcc : (!((c == 0) == decide (c = 0))) = false := by by_cases h : c = 0 <;> simp [h]
    go_wp2_with fail
    refine (nx.out _).mono ?_
    rintro e3 w3 ⟨rfl, rfl⟩
    go_wp2_with fail
    go_ret
    exact ⟨rfl, B2⟩

set_option maxRecDepth 100000 in
set_option maxHeartbeats 1000000 in
theorem law1_some (ah al ae : Int) (an : Bool) (bh bl be : Int) (bn : Bool) (c : Int)
    (ka : Hid (canon ah al ae an = true)) (kb : Hid (canon bh bl be bn = true))
    (v1 : Hid (cmpD ah al ae an bh bl be bn = c)) (v2 : Hid (cmpD bh bl be bn ah al ae an = -c)) (rc : Hid (c = -1 ∨ c = 0 ∨ c = 1))
    (v0 : Hid (c = 0 ↔ ah = bh ∧ al = bl ∧ ae = be ∧ an = bn)) (sh sl se : Int) (z : (ah != 0) = true)
    (nx : Hid (∀ w : World, Calls Try.prog 8 #[.int .u64 ah, .int .u64 al, .int .i32 ae] w fun e' w' => e' = .returned (.tuple #[.int .u64 sh, .int .u64 sl, .int .i32 se, .bool true]) ∧ w' = w))
    (v3 : Hid (cmpD ah al ae an sh sl se an = if an then 1 else -1)) (v4 : Hid (cmpD sh sl se an ah al ae an = if an then -1 else 1)) (w : World) :
    Calls Try.prog 3 #[.int .u64 ah, .int .u64 al, .int .i32 ae, .bool an, .int .u64 bh, .int .u64 bl, .int .i32 be, .bool bn] w
      fun e w' => e = .returned (.bool true) ∧ Below w.heap.size w w' := by
  go_enter Try.func3, Try.ntmps3
  go_wp2_with fail
  refine (canonv _ _ _ _ true ka.out _).mono ?_
  rintro e w' ⟨rfl, rfl⟩
  go_wp2_with fail
  refine (canonv _ _ _ _ true kb.out _).mono ?_
  rintro e w' ⟨rfl, rfl⟩
  go_wp2_with (first | (go_at_call 6; refine (new36 _ _ _ _ _).mono ?_; rintro e w' ⟨rfl, rfl⟩))
  refine (zzv _ _ _ _ _ _ _ _ c v1.out _).mono ?_
  rintro e1 w1 ⟨rfl, b1⟩
  have x1 := (((Box.new (w'.alloc _) ah al ae an (k := w'.heap.size + 1) (by rw [alloc_size])).alloc _).alloc _).keep b1
  have y1 := (Box.new (((w'.alloc _).alloc _).alloc _) bh bl be bn (k := w'.heap.size + 1 + 1 + 1) (by rw [alloc_size, alloc_size, alloc_size])).keep b1
  have B1 := below_call (below_alloc (below_alloc (below_alloc (below_alloc (Below.refl w'.heap.size w') _) _) _) _) b1
  clear b1
  have xa := x1.c0
  have xb := x1.c1
  have xc := x1.c2
  have xd := x1.c3
  have ya := y1.c0
  have yb := y1.c1
  have yc := y1.c2
  have yd := y1.c3
  go_wp2_with fail
  clear xa xb xc xd ya yb yc yd
  refine (zzv _ _ _ _ _ _ _ _ (-c) v2.out _).mono ?_
  rintro e2 w2 ⟨rfl, b2⟩
  have x2 := x1.keep b2
  have B2 := below_call B1 b2
  clear x1 y1 B1 b2
  have hw : IntKind.i64.wrap (-c) = -c := by rcases rc.out with r | r | r <;> rw [r] <;> decide
  have hc1 : ¬ c < -1 := by rcases rc.out with r | r | r <;> omega
  have hc2 : ¬ 1 < c := by rcases rc.out with r | r | r <;> omega
  go_upto_region 11 with fail
  go_cut [21] (fun b wq => b = .bool (decide (c = 0)) ∧ wq = w2)
  case first =>
    have hz := v0.out
    by_cases q1 : ah = bh
    · by_cases q2 : al = bl
      · by_cases q3 : ae = be
        · have hd : decide (c = 0) = (an == bn) := by
            rw [Bool.eq_iff_iff]; simp [hz, q1, q2, q3]
          subst q1
          subst q2
          subst q3
          clear hz
          go_wp2_with fail
          go_meet
          case rel => exact ⟨congrArg Value.bool hd.symm, rfl⟩
        · have hd : decide (c = 0) = false := by simp [hz, q3]
          have q3' : (ae == be) = false := by simp [q3]
          subst q1
          subst q2
          clear hz
          go_wp2_with fail
          go_meet
          case rel => exact ⟨congrArg Value.bool hd.symm, rfl⟩
      · have hd : decide (c = 0) = false := by simp [hz, q2]
        have q2' : (al == bl) = false := by simp [q2]
        subst q1
        clear hz
        go_wp2_with fail
        go_meet
        case rel => exact ⟨congrArg Value.bool hd.symm, rfl⟩
    · have hd : decide (c = 0) = false := by simp [hz, q1]
      have q1' : (ah == bh) = false := by simp [q1]
      clear hz
      go_wp2_with fail
      go_meet
      case rel => exact ⟨congrArg Value.bool hd.symm, rfl⟩
  case rest =>
    obtain ⟨rfl, rfl⟩ := hcut
    have hcc : (!((c == 0) == decide (c = 0))) = false := by by_cases h : c = 0 <;> simp [h]
    go_wp2_with fail
    refine (nx.out _).mono ?_
    rintro e3 w3 ⟨rfl, rfl⟩
    clear hcc hc1 hc2 hw nx v0 v1 v2 rc ka kb
    have xl := x2.lt
    have xn1 : w'.heap.size ≠ w3.heap.size := by omega
    have xn2 : w'.heap.size + 1 ≠ w3.heap.size := by omega
    have xn3 : w'.heap.size < w3.heap.size := by omega
    have xa := x2.c0
    have xb := x2.c1
    have xc := x2.c2
    have xd := x2.c3
    cases an with
    | false =>
      have v3' : Hid (cmpD ah al ae false sh sl se false = (-1)) := v3
      have v4' : Hid (cmpD sh sl se false ah al ae false = 1) := v4
      clear v3 v4
      go_wp2_with (first | (go_at_call 6; refine (new36 _ _ _ _ _).mono ?_; rintro e w' ⟨rfl, rfl⟩))
      clear xa xb xc xd
      refine (zzv _ _ _ _ _ _ _ _ (-1) v3'.out _).mono ?_
      rintro e4 w4 ⟨rfl, b4⟩
      have x4 := ((x2.alloc _).alloc _).keep b4
      have y4 := (Box.new (w3.alloc _) sh sl se false (k := w3.heap.size + 1) (by rw [alloc_size])).keep b4
      have B4 := below_call (below_alloc (below_alloc B2 _) _) b4
      have xa := x4.c0
      have xb := x4.c1
      have xc := x4.c2
      have xd := x4.c3
      have ya := y4.c0
      have yb := y4.c1
      have yc := y4.c2
      have yd := y4.c3
      go_wp2_with fail
      clear xa xb xc xd ya yb yc yd
      refine (zzv _ _ _ _ _ _ _ _ 1 v4'.out _).mono ?_
      rintro e5 w5 ⟨rfl, b5⟩
      go_wp2_with fail
      go_ret
      exact ⟨rfl, below_call B4 b5⟩
    | true =>
      have v3' : Hid (cmpD ah al ae true sh sl se true = 1) := v3
      have v4' : Hid (cmpD sh sl se true ah al ae true = (-1)) := v4
      clear v3 v4
      go_wp2_with (first | (go_at_call 6; refine (new36 _ _ _ _ _).mono ?_; rintro e w' ⟨rfl, rfl⟩))
      clear xa xb xc xd
      refine (zzv _ _ _ _ _ _ _ _ 1 v3'.out _).mono ?_
      rintro e4 w4 ⟨rfl, b4⟩
      have x4 := ((x2.alloc _).alloc _).keep b4
      have y4 := (Box.new (w3.alloc _) sh sl se true (k := w3.heap.size + 1) (by rw [alloc_size])).keep b4
      have B4 := below_call (below_alloc (below_alloc B2 _) _) b4
      have xa := x4.c0
      have xb := x4.c1
      have xc := x4.c2
      have xd := x4.c3
      have ya := y4.c0
      have yb := y4.c1
      have yc := y4.c2
      have yd := y4.c3
      go_wp2_with fail
      clear xa xb xc xd ya yb yc yd
      refine (zzv _ _ _ _ _ _ _ _ (-1) v4'.out _).mono ?_
      rintro e5 w5 ⟨rfl, b5⟩
      go_wp2_with fail
      go_ret
      exact ⟨rfl, below_call B4 b5⟩

theorem cmpD_of_less {h l e sh sl se : Int} (n : Bool) (k : cmpA h l e sh sl se = -1) :
    cmpD h l e n sh sl se n = (if n then 1 else -1) ∧ cmpD sh sl se n h l e n = (if n then -1 else 1) := by
  have q := cmpA_swap h l e sh sl se
  unfold cmpD
  cases n <;> simp <;> omega

set_option maxRecDepth 100000 in
set_option maxHeartbeats 400000 in
theorem law1 (ah al ae : Int) (an : Bool) (bh bl be : Int) (bn : Bool) (h0 : 0 ≤ ah) (l0 : 0 ≤ al) (e0 : -2147483648 ≤ ae) (e1 : ae ≤ 2147483647) (w : World) :
    Calls Try.prog 3 #[.int .u64 ah, .int .u64 al, .int .i32 ae, .bool an, .int .u64 bh, .int .u64 bl, .int .i32 be, .bool bn] w
      fun e w' => e = .returned (.bool true) ∧ Below w.heap.size w w' := by
  cases ka : canon ah al ae an with
  | false =>
    have ka' : Hid (canon ah al ae an = false) := ka
    clear ka
    go_enter Try.func3, Try.ntmps3
    go_wp2_with fail
    refine (canonv _ _ _ _ false ka'.out _).mono ?_
    rintro e w' ⟨rfl, rfl⟩
    go_wp2_with fail
    go_ret
    exact ⟨rfl, Below.refl _ _⟩
  | true =>
    have ka' : Hid (canon ah al ae an = true) := ka
    cases kb : canon bh bl be bn with
    | false =>
      have kb' : Hid (canon bh bl be bn = false) := kb
      clear ka kb
      go_enter Try.func3, Try.ntmps3
      go_wp2_with fail
      refine (canonv _ _ _ _ true ka'.out _).mono ?_
      rintro e w' ⟨rfl, rfl⟩
      go_wp2_with fail
      refine (canonv _ _ _ _ false kb'.out _).mono ?_
      rintro e w' ⟨rfl, rfl⟩
      go_wp2_with fail
      go_ret
      exact ⟨rfl, Below.refl _ _⟩
    | true =>
      obtain ⟨c, hc⟩ : ∃ c, cmpD ah al ae an bh bl be bn = c := ⟨_, rfl⟩
      have v2 : cmpD bh bl be bn ah al ae an = -c := by rw [cmpD_swap ah al ae an, hc]
      have rc := cmpD_cases ah al ae an bh bl be bn
      have v0 := cmpD_zero ah al ae an bh bl be bn ka kb
      rw [hc] at rc v0
      by_cases z : ah = 0
      · exact law1_zero ah al ae an bh bl be bn c ka' kb hc v2 rc v0 (by simp [z]) w
      · have z' : (ah != 0) = true := by simp [z]
        have hk := ka
        unfold canon at hk
        rw [if_neg z] at hk
        simp at hk
        have nx := fun w => next8 ah al ae h0 hk.2.1 l0 hk.2.2 e0 e1 w
        unfold nextV at nx
        by_cases c1 : al + 1 < 1000000000000000000
        · rw [if_pos c1] at nx
          obtain ⟨v3, v4⟩ := cmpD_of_less an (h := ah) (l := al) (e := ae) (sh := ah) (sl := al + 1) (se := ae) (by
            unfold cmpA cmpB; simp [z]; omega)
          exact law1_some ah al ae an bh bl be bn c ka' kb hc v2 rc v0 _ _ _ z' nx v3 v4 w
        · rw [if_neg c1] at nx
          by_cases c2 : ah + 1 < 1000000000000000000
          · rw [if_pos c2] at nx
            obtain ⟨v3, v4⟩ := cmpD_of_less an (h := ah) (l := al) (e := ae) (sh := ah + 1) (sl := 0) (se := ae) (by
              have q : ah + 1 ≠ 0 := by omega
              have q2 : ah ≠ ah + 1 := by omega
              have q3 : ¬ ah > ah + 1 := by omega
              have q4 : ah < ah + 1 := by omega
              unfold cmpA cmpB
              rw [if_neg (by simp [z, q]), if_neg (by simp), if_pos q2, decide_eq_false q3, decide_eq_true q4]
              rfl)
            exact law1_some ah al ae an bh bl be bn c ka' kb hc v2 rc v0 _ _ _ z' nx v3 v4 w
          · rw [if_neg c2] at nx
            by_cases c3 : ae < 2147483647
            · rw [if_pos c3] at nx
              obtain ⟨v3, v4⟩ := cmpD_of_less an (h := ah) (l := al) (e := ae) (sh := 100000000000000000) (sl := 0) (se := ae + 1) (by
                have q2 : ae ≠ ae + 1 := by omega
                have q3 : ¬ ae > ae + 1 := by omega
                have q4 : ae < ae + 1 := by omega
                unfold cmpA cmpB
                rw [if_neg (by simp [z]), if_pos q2, decide_eq_false q3, decide_eq_true q4]
                rfl)
              exact law1_some ah al ae an bh bl be bn c ka' kb hc v2 rc v0 _ _ _ z' nx v3 v4 w
            · rw [if_neg c3] at nx
              exact law1_none ah al ae an bh bl be bn c ka' kb hc v2 rc v0 z' nx w

end Go.Proofs.Qxb6613633a
