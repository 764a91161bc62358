/-
  signedAgainstZeroAndNegation walked, and the first plain laws.
-/
import Derived.Test.Qxb6613633aZz
namespace Go.Proofs.Qxb6613633a
open Go.RowKit

/-- a fact that the walk's simplifier is not to see -/
def Hid (p : Prop) : Prop := p
theorem Hid.out {p : Prop} (h : Hid p) : p := h

/-- a Decimal36 lies in block k -/
structure Box (w : World) (k : Nat) (h l e : Int) (n : Bool) : Prop where
  lt : k < w.heap.size
  c0 : w.cell? ⟨k, 0, none⟩ = some (.int .u64 h)
  c1 : w.cell? ⟨k, 1, none⟩ = some (.int .u64 l)
  c2 : w.cell? ⟨k, 2, none⟩ = some (.int .i32 e)
  c3 : w.cell? ⟨k, 3, none⟩ = some (.bool n)

theorem Box.keep {w w' : World} {k : Nat} {h l e : Int} {n : Bool} (x : Box w k h l e n) (b : Below w.heap.size w w') : Box w' k h l e n :=
  ⟨Nat.lt_of_lt_of_le x.lt b.size, (b.cell x.lt).trans x.c0, (b.cell x.lt).trans x.c1, (b.cell x.lt).trans x.c2, (b.cell x.lt).trans x.c3⟩

theorem Box.alloc {w : World} {k : Nat} {h l e : Int} {n : Bool} (x : Box w k h l e n) (o : Obj) : Box (w.alloc o) k h l e n := x.keep ((Below.refl _ _).alloc (Nat.le_refl _) o)

theorem Box.new (w : World) (h l e : Int) (n : Bool) {k : Nat} (hk : k = w.heap.size) : Box (w.alloc (.cells #[.int .u64 h, .int .u64 l, .int .i32 e, .bool n] 25)) k h l e n := by
  subst hk
  refine ⟨?_, ?_, ?_, ?_, ?_⟩
  · show w.heap.size < (w.heap.push _).size; simp
  all_goals simp [go_sem]

theorem alloc_size (w : World) (o : Obj) : (w.alloc o).heap.size = w.heap.size + 1 := by show (w.heap.push _).size = _; simp

theorem signv (h : Int) (n : Bool) (s : Int) (hs : (if h = 0 then 0 else if n then -1 else 1) = s) (w : World) :
    Calls Try.prog 11 #[.int .u64 h, .bool n] w fun e' w' => e' = .returned (.int .i64 s) ∧ w' = w := by
  rw [← hs]; exact sign11 h n w

set_option maxRecDepth 100000 in
set_option maxHeartbeats 400000 in
theorem signed_pos (h l e : Int) (n : Bool) (s : Int) (z : h ≠ 0) (hs : Hid ((if h = 0 then 0 else if n then -1 else 1) = s)) (hw : IntKind.i64.wrap (-s) = -s)
    (v1 : Hid (cmpD h l e n 0 0 0 false = s)) (v2 : Hid (cmpD 0 0 0 false h l e n = -s)) (v3 : Hid (cmpD h l e n h l e (!n) = s)) (v4 : Hid (cmpD h l e (!n) h l e n = -s)) (w : World) :
    Calls Try.prog 9 #[.agg #[.int .u64 h, .int .u64 l, .int .i32 e, .bool n], .int .u64 h, .int .u64 l, .int .i32 e, .bool n] w fun e' w' => e' = .returned (.bool true) ∧ Below w.heap.size w w' := by
  go_enter Try.func9, Try.ntmps9
  go_wp2_with (first | (go_at_call 6; refine (new36 _ _ _ _ _).mono ?_; rintro e w' ⟨rfl, rfl⟩) | (go_at_call 11; refine (signv _ _ s hs.out _).mono ?_; rintro e w' ⟨rfl, rfl⟩))
  refine (zzv _ _ _ _ _ _ _ _ s v1.out _).mono ?_
  rintro e1 w1 ⟨rfl, b1⟩
  have x1 := (((Box.new w h l e n rfl).alloc _).alloc _).keep b1
  have z1 := (Box.new _ 0 0 0 false (k := w.heap.size + 1 + 1) (by rw [alloc_size, alloc_size])).keep b1
  have xa := x1.c0
  have xb := x1.c1
  have xc := x1.c2
  have xd := x1.c3
  have za := z1.c0
  have zb := z1.c1
  have zc := z1.c2
  have zd := z1.c3
  go_wp2_with fail
  clear xa xb xc xd za zb zc zd
  refine (zzv _ _ _ _ _ _ _ _ (-s) v2.out _).mono ?_
  rintro e2 w2 ⟨rfl, b2⟩
  have x2 := x1.keep b2
  have xl := x2.lt
  have xa := x2.c0
  have xb := x2.c1
  have xc := x2.c2
  have xd := x2.c3
  have z' : (h != 0) = true := by simp [z]
  go_wp2_with (first | (go_at_call 6; refine (new36 _ _ _ _ _).mono ?_; rintro e w' ⟨rfl, rfl⟩))
  clear xa xb xc xd
  refine (zzv _ _ _ _ _ _ _ _ s v3.out _).mono ?_
  rintro e3 w3 ⟨rfl, b3⟩
  have x3 := ((x2.alloc _).alloc _).keep b3
  have m3 := (Box.new _ h l e (!n) (k := w2.heap.size + 1) (by rw [alloc_size])).keep b3
  have xa := x3.c0
  have xb := x3.c1
  have xc := x3.c2
  have xd := x3.c3
  have za := m3.c0
  have zb := m3.c1
  have zc := m3.c2
  have zd := m3.c3
  go_wp2_with fail
  clear xa xb xc xd za zb zc zd
  refine (zzv _ _ _ _ _ _ _ _ (-s) v4.out _).mono ?_
  rintro e4 w4 ⟨rfl, b4⟩
  go_wp2_with fail
  go_ret
  refine ⟨rfl, ?_⟩
  refine below_call ?_ b4
  refine below_call ?_ b3
  refine below_alloc (below_alloc ?_ _) _
  refine below_call ?_ b2
  refine below_call ?_ b1
  exact below_alloc (below_alloc (below_alloc (Below.refl _ _) _) _) _

set_option maxRecDepth 100000 in
set_option maxHeartbeats 400000 in
theorem signed_zero (w : World) :
    Calls Try.prog 9 #[.agg #[.int .u64 0, .int .u64 0, .int .i32 0, .bool false], .int .u64 0, .int .u64 0, .int .i32 0, .bool false] w fun e' w' => e' = .returned (.bool true) ∧ Below w.heap.size w w' := by
  have v1 : Hid (cmpD 0 0 0 false 0 0 0 false = 0) := by show cmpD 0 0 0 false 0 0 0 false = 0; decide
  go_enter Try.func9, Try.ntmps9
  go_wp2_with (first | (go_at_call 6; refine (new36 _ _ _ _ _).mono ?_; rintro e w' ⟨rfl, rfl⟩) | (go_at_call 11; refine (signv _ _ 0 rfl _).mono ?_; rintro e w' ⟨rfl, rfl⟩))
  refine (zzv _ _ _ _ _ _ _ _ 0 v1.out _).mono ?_
  rintro e1 w1 ⟨rfl, b1⟩
  have x1 := (((Box.new w 0 0 0 false rfl).alloc _).alloc _).keep b1
  have z1 := (Box.new _ 0 0 0 false (k := w.heap.size + 1 + 1) (by rw [alloc_size, alloc_size])).keep b1
  have xa := x1.c0
  have xb := x1.c1
  have xc := x1.c2
  have xd := x1.c3
  have za := z1.c0
  have zb := z1.c1
  have zc := z1.c2
  have zd := z1.c3
  go_wp2_with fail
  clear xa xb xc xd za zb zc zd
  refine (zzv _ _ _ _ _ _ _ _ 0 v1.out _).mono ?_
  rintro e2 w2 ⟨rfl, b2⟩
  go_wp2_with fail
  go_ret
  refine ⟨rfl, ?_⟩
  refine below_call ?_ b2
  refine below_call ?_ b1
  exact below_alloc (below_alloc (below_alloc (Below.refl _ _) _) _) _

/-! ### the plain laws of the comparison -/

theorem cmpB_swap (a b : Int) : cmpB (decide (a > b)) (decide (a < b)) = - cmpB (decide (b > a)) (decide (b < a)) := by
  unfold cmpB
  rcases Int.lt_trichotomy a b with h | h | h
  · simp [h, Int.not_lt.2 (Int.le_of_lt h)]
  · subst h; simp
  · simp [h, Int.not_lt.2 (Int.le_of_lt h)]

theorem cmpA_swap (h1 l1 e1 h2 l2 e2 : Int) : cmpA h2 l2 e2 h1 l1 e1 = - cmpA h1 l1 e1 h2 l2 e2 := by
  unfold cmpA
  by_cases z : h1 = 0 ∨ h2 = 0
  · rw [if_pos z, if_pos z.symm]
    unfold cmpB
    by_cases a : h1 = 0
    · by_cases b : h2 = 0 <;> simp [a, b]
    · have b : h2 = 0 := by omega
      simp [a, b]
  · rw [if_neg z, if_neg (fun h => z h.symm)]
    by_cases c1 : e1 = e2
    · subst c1
      have t : ¬ e1 ≠ e1 := fun h => h rfl
      simp only [if_neg t]
      by_cases c2 : h1 = h2
      · subst c2
        have t : ¬ h1 ≠ h1 := fun h => h rfl
        simp only [if_neg t]
        exact cmpB_swap _ _
      · have c3 : h2 ≠ h1 := fun h => c2 h.symm
        simp only [if_pos c3, if_pos (show h1 ≠ h2 from c2)]
        exact cmpB_swap _ _
    · have c3 : e2 ≠ e1 := fun h => c1 h.symm
      simp only [if_pos c3, if_pos (show e1 ≠ e2 from c1)]
      exact cmpB_swap _ _

theorem cmpD_swap (h1 l1 e1 : Int) (n1 : Bool) (h2 l2 e2 : Int) (n2 : Bool) : cmpD h2 l2 e2 n2 h1 l1 e1 n1 = - cmpD h1 l1 e1 n1 h2 l2 e2 n2 := by
  unfold cmpD
  have := cmpA_swap h1 l1 e1 h2 l2 e2
  cases n1 <;> cases n2 <;> simp <;> omega

theorem cmpD_sign (h l e : Int) (n : Bool) (hc : canon h l e n = true) : cmpD h l e n 0 0 0 false = (if h = 0 then 0 else if n then -1 else 1) := by
  unfold canon at hc
  by_cases z : h = 0
  · rw [if_pos z] at hc
    simp at hc
    obtain ⟨rfl, rfl, rfl⟩ := hc
    subst z
    decide
  · rw [if_neg z]
    cases n
    · simp [cmpD, cmpA, cmpB, z]
    · simp [cmpD]

theorem cmpD_not (h l e : Int) (n : Bool) : cmpD h l e n h l e (!n) = (if n then -1 else 1) := by
  cases n <;> simp [cmpD]

theorem signed9 (h l e : Int) (n : Bool) (hc : canon h l e n = true) (w : World) :
    Calls Try.prog 9 #[.agg #[.int .u64 h, .int .u64 l, .int .i32 e, .bool n], .int .u64 h, .int .u64 l, .int .i32 e, .bool n] w fun e' w' => e' = .returned (.bool true) ∧ Below w.heap.size w w' := by
  by_cases z : h = 0
  · unfold canon at hc
    rw [if_pos z] at hc
    simp at hc
    obtain ⟨rfl, rfl, rfl⟩ := hc
    subst z
    exact signed_zero w
  · have h1 := cmpD_sign h l e n hc
    have h3 := cmpD_not h l e n
    have h2 := cmpD_swap h l e n 0 0 0 false
    have h4 := cmpD_swap h l e n h l e (!n)
    rw [if_neg z] at h1
    rw [h1] at h2
    rw [h3] at h4
    exact signed_pos h l e n _ z (if_neg z) (by cases n <;> decide) h1 h2 h3 h4 w

theorem cmpB_cases (a b : Bool) : cmpB a b = -1 ∨ cmpB a b = 0 ∨ cmpB a b = 1 := by unfold cmpB; cases a <;> cases b <;> simp

theorem cmpA_cases (h1 l1 e1 h2 l2 e2 : Int) : cmpA h1 l1 e1 h2 l2 e2 = -1 ∨ cmpA h1 l1 e1 h2 l2 e2 = 0 ∨ cmpA h1 l1 e1 h2 l2 e2 = 1 := by
  unfold cmpA
  split
  · exact cmpB_cases _ _
  · split
    · exact cmpB_cases _ _
    · split <;> exact cmpB_cases _ _

theorem cmpD_cases (h1 l1 e1 : Int) (n1 : Bool) (h2 l2 e2 : Int) (n2 : Bool) : cmpD h1 l1 e1 n1 h2 l2 e2 n2 = -1 ∨ cmpD h1 l1 e1 n1 h2 l2 e2 n2 = 0 ∨ cmpD h1 l1 e1 n1 h2 l2 e2 n2 = 1 := by
  unfold cmpD
  split
  · split <;> simp
  · split <;> exact cmpA_cases _ _ _ _ _ _

theorem cmpB_zero (a b : Int) : cmpB (decide (a > b)) (decide (a < b)) = 0 ↔ a = b := by
  unfold cmpB
  rcases Int.lt_trichotomy a b with h | h | h
  · simp [h, Int.not_lt.2 (Int.le_of_lt h)]; omega
  · subst h; simp
  · simp [h]; omega

theorem cmpA_zero (h1 l1 e1 h2 l2 e2 : Int) (z1 : h1 = 0 → l1 = 0 ∧ e1 = 0) (z2 : h2 = 0 → l2 = 0 ∧ e2 = 0) : cmpA h1 l1 e1 h2 l2 e2 = 0 ↔ h1 = h2 ∧ l1 = l2 ∧ e1 = e2 := by
  unfold cmpA
  by_cases z : h1 = 0 ∨ h2 = 0
  · rw [if_pos z]
    unfold cmpB
    by_cases a : h1 = 0
    · by_cases b : h2 = 0
      · have := z1 a; have := z2 b; simp [a, b]; omega
      · simp [a, b]; omega
    · have b : h2 = 0 := by omega
      simp [a, b]
  · rw [if_neg z]
    by_cases c1 : e1 = e2
    · rw [if_neg (fun h => h c1)]
      by_cases c2 : h1 = h2
      · rw [if_neg (fun h => h c2), cmpB_zero]; omega
      · rw [if_pos c2, cmpB_zero]; omega
    · rw [if_pos c1, cmpB_zero]; omega

theorem canon_zero {h l e : Int} {n : Bool} (hc : canon h l e n = true) : h = 0 → l = 0 ∧ e = 0 := by
  intro z
  unfold canon at hc
  rw [if_pos z] at hc
  simp at hc
  exact ⟨hc.1, hc.2.1⟩

theorem cmpD_zero (h1 l1 e1 : Int) (n1 : Bool) (h2 l2 e2 : Int) (n2 : Bool) (c1 : canon h1 l1 e1 n1 = true) (c2 : canon h2 l2 e2 n2 = true) :
    cmpD h1 l1 e1 n1 h2 l2 e2 n2 = 0 ↔ h1 = h2 ∧ l1 = l2 ∧ e1 = e2 ∧ n1 = n2 := by
  have a := cmpA_zero h1 l1 e1 h2 l2 e2 (canon_zero c1) (canon_zero c2)
  have b := cmpA_zero h2 l2 e2 h1 l1 e1 (canon_zero c2) (canon_zero c1)
  unfold cmpD
  cases n1 <;> cases n2 <;> simp
  · rw [a]
  · rw [b]; omega

/-- at most: magnitudes -/
theorem cmpA_le (h1 l1 e1 h2 l2 e2 : Int) : cmpA h1 l1 e1 h2 l2 e2 ≤ 0 ↔ (h1 = 0 ∨ (h2 ≠ 0 ∧ (e1 < e2 ∨ (e1 = e2 ∧ (h1 < h2 ∨ (h1 = h2 ∧ l1 ≤ l2)))))) := by
  have k : ∀ a b : Int, cmpB (decide (a > b)) (decide (a < b)) ≤ 0 ↔ a ≤ b := by
    intro a b
    unfold cmpB
    rcases Int.lt_trichotomy a b with h | h | h
    · simp [h, Int.not_lt.2 (Int.le_of_lt h)]; omega
    · subst h; simp
    · simp [h]
  unfold cmpA
  by_cases z : h1 = 0 ∨ h2 = 0
  · rw [if_pos z]
    unfold cmpB
    by_cases a : h1 = 0
    · by_cases b : h2 = 0 <;> simp [a, b]
    · have b : h2 = 0 := by omega
      simp [a, b]
  · rw [if_neg z]
    by_cases c1 : e1 = e2
    · rw [if_neg (fun h => h c1)]
      by_cases c2 : h1 = h2
      · rw [if_neg (fun h => h c2), k]; omega
      · rw [if_pos c2, k]; omega
    · rw [if_pos c1, k]; omega

theorem cmpA_trans (h1 l1 e1 h2 l2 e2 h3 l3 e3 : Int) (a : cmpA h1 l1 e1 h2 l2 e2 ≤ 0) (b : cmpA h2 l2 e2 h3 l3 e3 ≤ 0) : cmpA h1 l1 e1 h3 l3 e3 ≤ 0 := by
  rw [cmpA_le] at *
  omega

theorem cmpD_trans (h1 l1 e1 : Int) (n1 : Bool) (h2 l2 e2 : Int) (n2 : Bool) (h3 l3 e3 : Int) (n3 : Bool)
    (a : cmpD h1 l1 e1 n1 h2 l2 e2 n2 ≤ 0) (b : cmpD h2 l2 e2 n2 h3 l3 e3 n3 ≤ 0) : cmpD h1 l1 e1 n1 h3 l3 e3 n3 ≤ 0 := by
  have t1 := cmpA_trans h1 l1 e1 h2 l2 e2 h3 l3 e3
  have t2 := cmpA_trans h3 l3 e3 h2 l2 e2 h1 l1 e1
  unfold cmpD at *
  cases n1 <;> cases n2 <;> cases n3 <;> simp at *
  · exact t1 a b
  · exact t2 b a

theorem cmpD_trans' (h1 l1 e1 : Int) (n1 : Bool) (h2 l2 e2 : Int) (n2 : Bool) (h3 l3 e3 : Int) (n3 : Bool)
    (a : 0 ≤ cmpD h1 l1 e1 n1 h2 l2 e2 n2) (b : 0 ≤ cmpD h2 l2 e2 n2 h3 l3 e3 n3) : 0 ≤ cmpD h1 l1 e1 n1 h3 l3 e3 n3 := by
  have s1 := cmpD_swap h1 l1 e1 n1 h2 l2 e2 n2
  have s2 := cmpD_swap h2 l2 e2 n2 h3 l3 e3 n3
  have s3 := cmpD_swap h1 l1 e1 n1 h3 l3 e3 n3
  have := cmpD_trans h3 l3 e3 n3 h2 l2 e2 n2 h1 l1 e1 n1 (by omega) (by omega)
  omega

end Go.Proofs.Qxb6613633a
