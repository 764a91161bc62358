/-
  The second law walked.
-/
import Derived.Test.Qxb6613633aSigned
namespace Go.Proofs.Qxb6613633a
open Go.RowKit

theorem canonv (h l e : Int) (n : Bool) (v : Bool) (hv : canon h l e n = v) (w : World) :
    Calls Try.prog 5 #[.int .u64 h, .int .u64 l, .int .i32 e, .bool n] w fun e' w' => e' = .returned (.bool v) ∧ w' = w := by
  rw [← hv]; exact canon5 h l e n w

set_option maxRecDepth 100000 in
set_option maxHeartbeats 400000 in
theorem law2_in (ah al ae : Int) (an : Bool) (bh bl be : Int) (bn : Bool) (ch cl ce : Int) (cn : Bool)
    (ka : Hid (canon ah al ae an = true)) (kb : Hid (canon bh bl be bn = true)) (kc : Hid (canon ch cl ce cn = true)) (w : World) :
    Calls Try.prog 4 #[.int .u64 ah, .int .u64 al, .int .i32 ae, .bool an, .int .u64 bh, .int .u64 bl, .int .i32 be, .bool bn, .int .u64 ch, .int .u64 cl, .int .i32 ce, .bool cn] w
      fun e w' => e = .returned (.bool true) ∧ Below w.heap.size w w' := by
  obtain ⟨ab, hab⟩ : ∃ v, cmpD ah al ae an bh bl be bn = v := ⟨_, rfl⟩
  obtain ⟨bc, hbc⟩ : ∃ v, cmpD bh bl be bn ch cl ce cn = v := ⟨_, rfl⟩
  obtain ⟨ac, hac⟩ : ∃ v, cmpD ah al ae an ch cl ce cn = v := ⟨_, rfl⟩
  have t1 := cmpD_trans ah al ae an bh bl be bn ch cl ce cn
  have t2 := cmpD_trans' ah al ae an bh bl be bn ch cl ce cn
  rw [hab, hbc, hac] at t1 t2
  have T1 : Hid (ab ≤ 0 → bc ≤ 0 → ac ≤ 0) := t1
  have T2 : Hid (0 ≤ ab → 0 ≤ bc → 0 ≤ ac) := t2
  have v1 : Hid (cmpD ah al ae an bh bl be bn = ab) := hab
  have v2 : Hid (cmpD bh bl be bn ch cl ce cn = bc) := hbc
  have v3 : Hid (cmpD ah al ae an ch cl ce cn = ac) := hac
  clear t1 t2 hab hbc hac
  go_enter Try.func4, Try.ntmps4
  go_wp2_with fail
  refine (canonv _ _ _ _ true ka.out _).mono ?_
  rintro e w' ⟨rfl, rfl⟩
  go_wp2_with fail
  refine (canonv _ _ _ _ true kb.out _).mono ?_
  rintro e w' ⟨rfl, rfl⟩
  go_wp2_with fail
  refine (canonv _ _ _ _ true kc.out _).mono ?_
  rintro e w' ⟨rfl, rfl⟩
  go_wp2_with (first | (go_at_call 6; refine (new36 _ _ _ _ _).mono ?_; rintro e w' ⟨rfl, rfl⟩))
  refine (zzv _ _ _ _ _ _ _ _ ab v1.out _).mono ?_
  rintro e1 w1 ⟨rfl, b1⟩
  have x1 := (((((Box.new (w'.alloc _) ah al ae an (k := w'.heap.size + 1) (by rw [alloc_size])).alloc _).alloc _).alloc _).alloc _).keep b1
  have y1 := (((Box.new (((w'.alloc _).alloc _).alloc _) bh bl be bn (k := w'.heap.size + 1 + 1 + 1) (by rw [alloc_size, alloc_size, alloc_size])).alloc _).alloc _).keep b1
  have z1 := (Box.new (((((w'.alloc _).alloc _).alloc _).alloc _).alloc _) ch cl ce cn (k := w'.heap.size + 1 + 1 + 1 + 1 + 1) (by rw [alloc_size, alloc_size, alloc_size, alloc_size, alloc_size])).keep b1
  have B1 := below_call (below_alloc (below_alloc (below_alloc (below_alloc (below_alloc (below_alloc (Below.refl w'.heap.size w') _) _) _) _) _) _) b1
  clear b1
  have xa := x1.c0
  have xb := x1.c1
  have xc := x1.c2
  have xd := x1.c3
  have ya := y1.c0
  have yb := y1.c1
  have yc := y1.c2
  have yd := y1.c3
  have za := z1.c0
  have zb := z1.c1
  have zc := z1.c2
  have zd := z1.c3
  go_wp2_with fail
  clear xa xb xc xd ya yb yc yd za zb zc zd
  refine (zzv _ _ _ _ _ _ _ _ bc v2.out _).mono ?_
  rintro e2 w2 ⟨rfl, b2⟩
  have x2 := x1.keep b2
  have y2 := y1.keep b2
  have z2 := z1.keep b2
  have B2 := below_call B1 b2
  clear x1 y1 z1 B1 b2
  have xa := x2.c0
  have xb := x2.c1
  have xc := x2.c2
  have xd := x2.c3
  have ya := y2.c0
  have yb := y2.c1
  have yc := y2.c2
  have yd := y2.c3
  have za := z2.c0
  have zb := z2.c1
  have zc := z2.c2
  have zd := z2.c3
  go_wp2_with fail
  clear xa xb xc xd ya yb yc yd za zb zc zd
  refine (zzv _ _ _ _ _ _ _ _ ac v3.out _).mono ?_
  rintro e3 w3 ⟨rfl, b3⟩
  have x3 := x2.keep b3
  have y3 := y2.keep b3
  have z3 := z2.keep b3
  have B3 := below_call B2 b3
  clear x2 y2 z2 B2 b3
  have xa := x3.c0
  have xb := x3.c1
  have xc := x3.c2
  have xd := x3.c3
  have ya := y3.c0
  have yb := y3.c1
  have yc := y3.c2
  have yd := y3.c3
  have za := z3.c0
  have zb := z3.c1
  have zc := z3.c2
  have zd := z3.c3
  have r1 := cmpD_cases ah al ae an bh bl be bn
  have r2 := cmpD_cases bh bl be bn ch cl ce cn
  rw [v1.out] at r1
  rw [v2.out] at r2
  rcases r1 with r1 | r1 | r1 <;> rcases r2 with r2 | r2 | r2
  all_goals
    subst r1
    subst r2
    first | have q1 : ac ≤ 0 := T1.out (by omega) (by omega) | skip
    first | have q2 : 0 ≤ ac := T2.out (by omega) (by omega) | skip
    clear T1 T2 v1 v2 v3
    go_wp2_with fail
    clear xa xb xc xd ya yb yc yd za zb zc zd
    refine (signed9 _ _ _ _ ka.out _).mono ?_
    rintro e4 w4 ⟨rfl, b4⟩
    have y4 := y3.keep b4
    have z4 := z3.keep b4
    have B4 := below_call B3 b4
    clear x3 y3 z3 B3 b4
    have ya := y4.c0
    have yb := y4.c1
    have yc := y4.c2
    have yd := y4.c3
    have za := z4.c0
    have zb := z4.c1
    have zc := z4.c2
    have zd := z4.c3
    go_wp2_with fail
    clear ya yb yc yd za zb zc zd
    refine (signed9 _ _ _ _ kb.out _).mono ?_
    rintro e5 w5 ⟨rfl, b5⟩
    have z5 := z4.keep b5
    have B5 := below_call B4 b5
    clear y4 z4 B4 b5
    have za := z5.c0
    have zb := z5.c1
    have zc := z5.c2
    have zd := z5.c3
    go_wp2_with fail
    clear za zb zc zd
    refine (signed9 _ _ _ _ kc.out _).mono ?_
    rintro e6 w6 ⟨rfl, b6⟩
    go_wp2_with fail
    go_ret
    exact ⟨rfl, below_call B5 b6⟩

set_option maxRecDepth 100000 in
set_option maxHeartbeats 400000 in
theorem law2 (ah al ae : Int) (an : Bool) (bh bl be : Int) (bn : Bool) (ch cl ce : Int) (cn : Bool) (w : World) :
    Calls Try.prog 4 #[.int .u64 ah, .int .u64 al, .int .i32 ae, .bool an, .int .u64 bh, .int .u64 bl, .int .i32 be, .bool bn, .int .u64 ch, .int .u64 cl, .int .i32 ce, .bool cn] w
      fun e w' => e = .returned (.bool true) ∧ Below w.heap.size w w' := by
  cases ka : canon ah al ae an with
  | false =>
    have ka' : Hid (canon ah al ae an = false) := ka
    clear ka
    go_enter Try.func4, Try.ntmps4
    go_wp2_with fail
    refine (canonv _ _ _ _ false ka'.out _).mono ?_
    rintro e w' ⟨rfl, rfl⟩
    go_wp2_with fail
    go_ret
    exact ⟨rfl, Below.refl _ _⟩
  | true =>
    have ka' : Hid (canon ah al ae an = true) := ka
    clear ka
    cases kb : canon bh bl be bn with
    | false =>
      have kb' : Hid (canon bh bl be bn = false) := kb
      clear kb
      go_enter Try.func4, Try.ntmps4
      go_wp2_with fail
      refine (canonv _ _ _ _ true ka'.out _).mono ?_
      rintro e w' ⟨rfl, rfl⟩
      go_wp2_with fail
      refine (canonv _ _ _ _ false kb'.out _).mono ?_
      rintro e w' ⟨rfl, rfl⟩
      go_wp2_with fail
      go_ret
      exact ⟨rfl, Below.refl _ _⟩
    | true =>
      have kb' : Hid (canon bh bl be bn = true) := kb
      clear kb
      cases kc : canon ch cl ce cn with
      | false =>
        have kc' : Hid (canon ch cl ce cn = false) := kc
        clear kc
        go_enter Try.func4, Try.ntmps4
        go_wp2_with fail
        refine (canonv _ _ _ _ true ka'.out _).mono ?_
        rintro e w' ⟨rfl, rfl⟩
        go_wp2_with fail
        refine (canonv _ _ _ _ true kb'.out _).mono ?_
        rintro e w' ⟨rfl, rfl⟩
        go_wp2_with fail
        refine (canonv _ _ _ _ false kc'.out _).mono ?_
        rintro e w' ⟨rfl, rfl⟩
        go_wp2_with fail
        go_ret
        exact ⟨rfl, Below.refl _ _⟩
      | true => exact law2_in ah al ae an bh bl be bn ch cl ce cn ka' kb' kc w

end Go.Proofs.Qxb6613633a
