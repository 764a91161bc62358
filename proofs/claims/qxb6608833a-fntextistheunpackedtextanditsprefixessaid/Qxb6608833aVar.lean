/-
  The walks of readVarint, uvarint, the bounds on lengths and textHeader: strings alone.
-/
import Derived.Test.Qxb6608833aRows
import Derived.Test.Qxb6608833aPlain
import Derived.WalkKit
import Derived.WalkLawsBesides
import Derived.WalkSpells
import Derived.Deep.QuietTactic
import Derived.BigQuiet
namespace Go.Proofs.Qxb6608833a
open Go.RowKit

theorem at_byte (s : ByteArray) (i : Nat) (h : i < s.size) : at' s.data.toList i = s[i].toNat := by
  unfold at'
  rw [List.getD_eq_getElem?_getD, List.getElem?_eq_getElem (by simpa using h)]
  rfl

theorem at_drop (l : List UInt8) (p j : Nat) : at' (l.drop p) j = at' l (p + j) := by
  unfold at'
  rw [List.getD_eq_getElem?_getD, List.getElem?_drop, List.getD_eq_getElem?_getD]

theorem vstep (l : List UInt8) (m n : Nat) (h : m < n) (hl : n ≤ l.length) : vval ((l.drop m).take (n - m)) = at' l m % 128 + 128 * vval ((l.drop (m + 1)).take (n - (m + 1))) := by
  rw [List.drop_eq_getElem_cons (show m < l.length by omega), show n - m = (n - (m + 1)) + 1 by omega, List.take_succ_cons, vval]
  congr 2
  unfold at'
  rw [List.getD_eq_getElem?_getD, List.getElem?_eq_getElem (show m < l.length by omega)]
  rfl

theorem vlt (l : List UInt8) (m k : Nat) (h : k ≤ 8) : vval ((l.drop m).take k) < 72057594037927936 := by
  have h1 := vval_lt ((l.drop m).take k)
  have h2 : 128 ^ ((l.drop m).take k).length ≤ 128 ^ 8 := Nat.pow_le_pow_right (by omega) (by rw [List.length_take]; omega)
  have h3 : (128 : Nat) ^ 8 = 72057594037927936 := by decide
  omega

theorem mask7 (c : Nat) (h : c < 256) : bits .and .u8 (c : Int) 127 = ((c % 128 : Nat) : Int) := by
  have := bits_mask .u8 8 (by decide) wraps_u8 7 (by decide) (c : Int) (by omega) (by omega)
  rw [show (2 : Int) ^ 7 - 1 = 127 from rfl] at this
  rw [this]
  simp

theorem or_hi (a b i : Nat) (h : b < 2 ^ i) : a * 2 ^ i ||| b = a * 2 ^ i + b := by
  rw [← Nat.shiftLeft_eq, Nat.shiftLeft_add_eq_or_of_lt h]

theorem or7 (u c : Nat) (hu : u < 72057594037927936) : bits .or .u64 ((u : Int) * 128) ((c : Int) % 128) = ((c % 128 + 128 * u : Nat) : Int) := by
  have hc := Nat.mod_lt c (show 0 < 128 by omega)
  have := u64_or_nat (u * 128) (c % 128) (by omega) (by omega)
  rw [show ((u * 128 : Nat) : Int) = (u : Int) * 128 by omega, show ((c % 128 : Nat) : Int) = (c : Int) % 128 by omega] at this
  rw [this, show u * 128 = u * 2 ^ 7 from rfl, or_hi u (c % 128) 7 (by omega)]
  omega

set_option maxRecDepth 100000 in
set_option maxHeartbeats 400000 in
theorem readVarint_ok (s : ByteArray) (p n v : Nat) (hs : s.size ≤ 4194304) (hn : n ≤ 9) (hv : Hid (IsVar (s.data.toList.drop p) n v)) (w : World) :
    Calls Try.prog 49 #[.string s, .int .i64 p] w fun e w' => e = .returned (.tuple #[.int .u64 v, .int .i64 ((p + n : Nat) : Int), .bool true]) ∧ w' = w := by
  have hn1 : 1 ≤ n := hv.out.1
  have hpn : p + n ≤ s.size := by
    have := hv.out.2.1
    rw [List.length_drop] at this
    simp at this; omega
  go_enter Try.func49, Try.ntmps49
  go_wp2
  go_loop [7, 8] (fun t i => ∃ k : Nat, k < n ∧ i = .int .i64 k ∧ t = .int .i64 (-1)) (fun _ i => 9 - (intOf i).toNat)
  case atStart => exact ⟨0, by omega, rfl, rfl⟩
  case round =>
    obtain ⟨k, hk, rfl, rfl⟩ := hrel
    have hb := at_byte s (p + k) (by omega)
    by_cases hl : k + 1 < n
    · have h128 : 128 ≤ ((s[p + k]'(by omega)).toNat : Int) := by
        have := hv.out.2.2.2.1 k hl
        rw [at_drop, hb] at this
        omega
      clear hb
      go_wp2
      go_round
      case rel => exact ⟨k + 1, by omega, by go_num, rfl⟩
      case measure => simp [intOf]; omega
    · obtain rfl : n = k + 1 := by omega
      have h128 : ((s[p + k]'(by omega)).toNat : Int) < 128 := by
        have := hv.out.2.2.1
        rw [Nat.add_sub_cancel, at_drop, hb] at this
        omega
      clear hb
      go_wp2
      go_loop [9, 10] (fun t i => ∃ m : Nat, m ≤ k + 1 ∧ i = .int .i64 ((p + m : Nat) - 1 : Int) ∧ t = .int .u64 (vval (((s.data.toList.drop p).drop m).take (k + 1 - m)) : Nat)) (fun _ i => (intOf i + 1 - p).toNat)
      case atStart => exact ⟨k + 1, by omega, by go_num, by simp [vval]⟩
      case round =>
        obtain ⟨m, hm, rfl, rfl⟩ := hrel
        by_cases h0 : m = 0
        · subst h0
          have HV : Hid (v = vval (((s.data.toList.drop p).drop 0).take (k + 1 - 0))) := hv.out.2.2.2.2
          go_wp2
          go_ret3
          refine ⟨?_, rfl⟩
          rw [HV.out]
          go_num
        · obtain ⟨j, rfl⟩ : ∃ j, m = j + 1 := ⟨m - 1, by omega⟩
          have hvs := vstep (s.data.toList.drop p) j (k + 1) (by omega) (by rw [List.length_drop]; simp; omega)
          rw [at_drop, at_byte s (p + j) (by omega)] at hvs
          have HVS : Hid (vval (((s.data.toList.drop p).drop j).take (k + 1 - j)) = (s[p + j]'(by omega)).toNat % 128 + 128 * vval (((s.data.toList.drop p).drop (j + 1)).take (k + 1 - (j + 1)))) := hvs
          clear hvs
          have hlt : vval (((s.data.toList.drop p).drop (j + 1)).take (k + 1 - (j + 1))) < 72057594037927936 := vlt _ _ _ (by omega)
          rw [show (((p + (j + 1) : Nat) : Int) - 1) = ((p + j : Nat) : Int) by omega]
          have hand := mask7 (s[p + j]'(by omega)).toNat (UInt8.toNat_lt _)
          have HOR : Hid (bits .or .u64 (((vval (((s.data.toList.drop p).drop (j + 1)).take (k + 1 - (j + 1))) : Nat) : Int) * 128) (((s[p + j]'(by omega)).toNat : Int) % 128) = (((s[p + j]'(by omega)).toNat % 128 + 128 * vval (((s.data.toList.drop p).drop (j + 1)).take (k + 1 - (j + 1))) : Nat) : Int)) := or7 _ _ hlt
          generalize vval (((s.data.toList.drop p).drop (j + 1)).take (k + 1 - (j + 1))) = u at *
          go_wp2
          go_round
          case rel => exact ⟨j, by omega, by go_num, by rw [HVS.out, HOR.out]⟩
          case measure => simp [intOf]; omega

set_option maxRecDepth 100000 in
set_option maxHeartbeats 400000 in
theorem readVarint_no (s : ByteArray) (p : Nat) (hs : s.size ≤ 4194304) (hp : p ≤ s.size) (hv : Hid (∀ n v, n ≤ 9 → ¬ IsVar (s.data.toList.drop p) n v)) (w : World) :
    Calls Try.prog 49 #[.string s, .int .i64 p] w fun e w' => e = .returned (.tuple #[.int .u64 0, .int .i64 p, .bool false]) ∧ w' = w := by
  go_enter Try.func49, Try.ntmps49
  go_wp2
  go_loop [7, 8] (fun t i => ∃ k : Nat, k ≤ 9 ∧ p + k ≤ s.size ∧ i = .int .i64 k ∧ t = .int .i64 (-1) ∧ ∀ j, j < k → 128 ≤ at' (s.data.toList.drop p) j) (fun _ i => 9 - (intOf i).toNat)
  case atStart => exact ⟨0, by omega, by omega, rfl, rfl, fun j hj => by omega⟩
  case round =>
    obtain ⟨k, hk, hpk, rfl, rfl, hall0⟩ := hrel
    have hall : Hid (∀ j, j < k → 128 ≤ at' (s.data.toList.drop p) j) := hall0
    clear hall0
    by_cases hk9 : k < 9
    · by_cases hl : p + k < s.size
      · have hb := at_byte s (p + k) hl
        have h128 : 128 ≤ ((s[p + k]'hl).toNat : Int) := by
          rcases Nat.lt_or_ge (s[p + k]'hl).toNat 128 with h | h
          · refine absurd ⟨by omega, ?_, ?_, ?_, rfl⟩ (hv.out (k + 1) (vval ((s.data.toList.drop p).take (k + 1))) (by omega))
            · rw [List.length_drop]; simp; omega
            · rw [Nat.add_sub_cancel, at_drop, hb]; exact h
            · intro j hj; exact hall.out j (by omega)
          · omega
        have HB : Hid (at' (s.data.toList.drop p) k = (s[p + k]'hl).toNat) := by
          show at' (s.data.toList.drop p) k = _
          rw [at_drop, hb]
        clear hb
        go_wp2
        go_round
        case rel =>
          refine ⟨k + 1, by omega, by omega, by go_num, rfl, fun j hj => ?_⟩
          by_cases e : j = k
          · rw [e, HB.out]; omega
          · exact hall.out j (by omega)
        case measure => simp [intOf]; omega
      · go_wp2
        go_ret3
        exact ⟨rfl, rfl⟩
    · go_wp2
      go_ret3
      exact ⟨rfl, rfl⟩

theorem or_shift (u c i : Nat) (hu : u < 128 ^ i) (hi : i ≤ 8) : bits .or .u64 (u : Int) (IntKind.u64.wrap (((c : Int) % 128) * 2 ^ (7 * i))) = ((u + c % 128 * 128 ^ i : Nat) : Int) := by
  have hc := Nat.mod_lt c (show 0 < 128 by omega)
  have e : (128 : Nat) ^ i = 2 ^ (7 * i) := by rw [Nat.pow_mul]
  have h9 : (2 : Nat) ^ (7 * i) ≤ 2 ^ 56 := Nat.pow_le_pow_right (by omega) (by omega)
  have hm : c % 128 * 2 ^ (7 * i) ≤ 127 * 2 ^ 56 := Nat.mul_le_mul (by omega) h9
  rw [e] at hu ⊢
  have := u64_or_nat u (c % 128 * 2 ^ (7 * i)) (by omega) (by omega)
  have e2 : ((c % 128 * 2 ^ (7 * i) : Nat) : Int) = ((c : Int) % 128) * 2 ^ (7 * i) := by rw [Int.natCast_mul, Int.natCast_pow]; rfl
  rw [← e2, IntWalk.u64_in _ ⟨by omega, by omega⟩]
  rw [this, Nat.or_comm, or_hi _ _ _ hu, Nat.add_comm]

theorem vval_snoc : ∀ (l : List UInt8) (b : UInt8), vval (l ++ [b]) = vval l + b.toNat % 128 * 128 ^ l.length
  | [], b => by simp [vval]
  | a :: l, b => by
    simp only [List.cons_append, vval, vval_snoc l b, List.length_cons, Nat.pow_succ]
    rw [Nat.mul_add, ← Nat.mul_assoc, ← Nat.mul_assoc, Nat.mul_comm 128 (b.toNat % 128), Nat.mul_assoc (b.toNat % 128), Nat.mul_assoc (b.toNat % 128), Nat.mul_comm 128 (128 ^ l.length)]
    omega

theorem vtake (l : List UInt8) (k : Nat) (h : k < l.length) : vval (l.take (k + 1)) = vval (l.take k) + at' l k % 128 * 128 ^ k := by
  rw [List.take_succ_eq_append_getElem h, vval_snoc, List.length_take, Nat.min_eq_left (by omega)]
  unfold at'
  rw [List.getD_eq_getElem?_getD, List.getElem?_eq_getElem h]
  rfl

theorem vtake_lt (l : List UInt8) (k : Nat) : vval (l.take k) < 128 ^ k := by
  have h1 := vval_lt (l.take k)
  have h2 : 128 ^ (l.take k).length ≤ 128 ^ k := Nat.pow_le_pow_right (by omega) (by rw [List.length_take]; omega)
  omega

set_option maxRecDepth 100000 in
set_option maxHeartbeats 400000 in
theorem uvarint_any (s : ByteArray) (n v : Nat) (hs : s.size ≤ 4194304) (hn : n ≤ 9) (hv : Hid (IsVar s.data.toList n v)) (w : World) :
    Calls Try.prog 80 #[.string s] w fun e w' => e = .returned (.tuple #[.int .u64 v, .string (s.extract n s.size)]) ∧ ∃ nq, w' = w.drewN nq := by
  have hn1 : 1 ≤ n := hv.out.1
  have hpn : n ≤ s.size := by have := hv.out.2.1; simpa using this
  go_enter Try.func80, Try.ntmps80
  go_wp2
  go_loop [4, 5] (fun t i => ∃ k : Nat, k < n ∧ i = .int .i64 k ∧ t = .int .u64 (vval (s.data.toList.take k) : Nat)) (fun _ i => 9 - (intOf i).toNat)
  case atStart => exact ⟨0, by omega, rfl, rfl⟩
  case round =>
    obtain ⟨k, hk, rfl, rfl⟩ := hrel
    have hb := at_byte s k (by omega)
    have hlt := vtake_lt s.data.toList k
    have hst := vtake s.data.toList k (by simp; omega)
    rw [hb] at hst
    have HOR : Hid (bits .or .u64 ((vval (s.data.toList.take k) : Nat) : Int) (IntKind.u64.wrap ((((s[k]'(by omega)).toNat : Int) % 128) * 2 ^ (7 * k))) = ((vval (s.data.toList.take (k + 1)) : Nat) : Int)) := by
      show bits .or .u64 ((vval (s.data.toList.take k) : Nat) : Int) (IntKind.u64.wrap ((((s[k]'(by omega)).toNat : Int) % 128) * 2 ^ (7 * k))) = ((vval (s.data.toList.take (k + 1)) : Nat) : Int)
      rw [or_shift _ _ k hlt (by omega), hst]
    clear hst hlt
    have hand := mask7 (s[k]'(by omega)).toNat (UInt8.toNat_lt _)
    by_cases hl : k + 1 < n
    · have h128 : 128 ≤ ((s[k]'(by omega)).toNat : Int) := by
        have := hv.out.2.2.2.1 k hl
        rw [hb] at this
        omega
      clear hb
      generalize vval (s.data.toList.take k) = u at *
      go_wp2
      go_round
      case rel => exact ⟨k + 1, by omega, by go_num, by rw [HOR.out]⟩
      case measure => simp [intOf]; omega
    · obtain rfl : n = k + 1 := by omega
      have h128 : ((s[k]'(by omega)).toNat : Int) < 128 := by
        have := hv.out.2.2.1
        rw [Nat.add_sub_cancel, hb] at this
        omega
      have HV : Hid (v = vval (s.data.toList.take (k + 1))) := hv.out.2.2.2.2
      clear hb
      generalize vval (s.data.toList.take k) = u at *
      go_wp2_with fail
      go_quiet (fail)
      go_wp2
      go_ret2
      refine ⟨?_, _, rfl⟩
      rw [HV.out, HOR.out]
      rfl

theorem bytes8_yes (s t : ByteArray) (hs : s.size ≤ maxLen) (ht : t.size ≤ maxLen) (h : s.size + t.size ≤ 1048576) (w : World) :
    Calls Try.prog 36 #[.string s, .string t] w fun e w' => e = .returned (.bool true) ∧ w' = w := by
  unfold maxLen at hs ht
  go_enter Try.func36, Try.ntmps36
  go_wp2
  go_ret
  exact ⟨rfl, rfl⟩
theorem bytes8_no (s t : ByteArray) (hs : s.size ≤ maxLen) (ht : t.size ≤ maxLen) (h : ¬ s.size + t.size ≤ 1048576) (w : World) :
    Calls Try.prog 36 #[.string s, .string t] w fun e w' => e = .returned (.bool false) ∧ w' = w := by
  unfold maxLen at hs ht
  by_cases h1 : s.size ≤ 1048576
  · by_cases h2 : t.size ≤ 1048576
    · go_enter Try.func36, Try.ntmps36
      go_wp2
      go_ret
      exact ⟨rfl, rfl⟩
    · go_enter Try.func36, Try.ntmps36
      go_wp2
      go_ret
      exact ⟨rfl, rfl⟩
  · go_enter Try.func36, Try.ntmps36
    go_wp2
    go_ret
    exact ⟨rfl, rfl⟩
theorem bytes7_yes (s : ByteArray) (k : Int) (hs : s.size ≤ maxLen) (h : s.size ≤ 1048576) (w : World) :
    Calls Try.prog 30 #[.string s, .int .i64 k] w fun e w' => e = .returned (.bool true) ∧ w' = w := by
  unfold maxLen at hs
  go_enter Try.func30, Try.ntmps30
  go_wp2
  go_ret
  exact ⟨rfl, rfl⟩
theorem bytes7_no (s : ByteArray) (k : Int) (hs : s.size ≤ maxLen) (h : ¬ s.size ≤ 1048576) (w : World) :
    Calls Try.prog 30 #[.string s, .int .i64 k] w fun e w' => e = .returned (.bool false) ∧ w' = w := by
  unfold maxLen at hs
  go_enter Try.func30, Try.ntmps30
  go_wp2
  go_ret
  exact ⟨rfl, rfl⟩

/-! ### textHeader -/

/-- the two varints of the layout: the text's length, where its varint starts and ends, the odd bit; what follows -/
def Header (l : List UInt8) (n1 n2 v2 : Nat) : Prop := n1 ≤ 9 ∧ n2 ≤ 9 ∧ (∃ v1, IsVar l n1 v1) ∧ IsVar (l.drop n1) n2 v2

theorem shr1 (v : Nat) : ((v : Int) / 2) = ((v / 2 : Nat) : Int) := by omega

set_option maxRecDepth 100000 in
set_option maxHeartbeats 400000 in
theorem textHeader_ok (s : ByteArray) (n1 n2 v2 : Nat) (hs : s.size ≤ 4194304) (h : Hid (Header s.data.toList n1 n2 v2)) (hT : v2 / 2 ≤ 1048576) (w : World) :
    Calls Try.prog 31 #[.string s] w fun e w' => e = .returned (.tuple #[.int .i64 (v2 / 2 : Nat), .int .i64 n1, .int .i64 ((n1 + n2 : Nat) : Int), .int .u64 (v2 % 2 : Nat), .bool true]) ∧ w' = w := by
  obtain ⟨h1, h2, ⟨v1, hv1⟩, hv2⟩ := h
  have HV1 : Hid (IsVar (s.data.toList.drop 0) n1 v1) := hv1
  have HV2 : Hid (IsVar (s.data.toList.drop n1) n2 v2) := hv2
  clear hv1 hv2
  go_enter Try.func31, Try.ntmps31
  go_wp2_with fail
  refine (readVarint_ok s 0 n1 v1 hs h1 HV1 _).mono ?_
  rintro e w' ⟨rfl, rfl⟩
  go_wp2_with fail
  refine (readVarint_ok s n1 n2 v2 hs h2 HV2 _).mono ?_
  rintro e w' ⟨rfl, rfl⟩
  have hlt : v2 < 9223372036854775808 := by have := isVar_lt HV2.out h2; omega
  have hm1 : bits .and .u64 (v2 : Int) 1 = ((v2 % 2 : Nat) : Int) := by
    have := u64_and_nat v2 1 (by omega) (by omega)
    rw [nat_mask1] at this
    exact this
  go_wp2
  refine bodyPost_ret (v := .tuple #[.int .i64 (v2 / 2 : Nat), .int .i64 n1, .int .i64 ((n1 + n2 : Nat) : Int), .int .u64 (v2 % 2 : Nat), .bool true]) (by simp [results, Try.results31, go_sem]) rfl ⟨rfl, rfl⟩

set_option maxRecDepth 100000 in
set_option maxHeartbeats 400000 in
theorem textHeader_no (s : ByteArray) (hs : s.size ≤ 4194304) (h : Hid (∀ n1 n2 v2, Header s.data.toList n1 n2 v2 → 1048576 < v2 / 2)) (w : World) :
    Calls Try.prog 31 #[.string s] w fun e w' => e = .returned (.tuple #[.int .i64 0, .int .i64 0, .int .i64 0, .int .u64 0, .bool false]) ∧ w' = w := by
  cases hg1 : getVarN 9 s.data.toList with
  | none =>
    have HV1 : Hid (∀ n v, n ≤ 9 → ¬ IsVar (s.data.toList.drop 0) n v) := fun n v hn hv => by
      have hv' : IsVar s.data.toList n v := hv
      rw [getVarN_of 9 _ n v hn hv'] at hg1; cases hg1
    clear hg1
    go_enter Try.func31, Try.ntmps31
    go_wp2_with fail
    refine (readVarint_no s 0 hs (by omega) HV1 _).mono ?_
    rintro e w' ⟨rfl, rfl⟩
    go_wp2
    exact bodyPost_ret (v := .tuple #[.int .i64 0, .int .i64 0, .int .i64 0, .int .u64 0, .bool false]) (by simp [results, Try.results31, go_sem]) rfl ⟨rfl, rfl⟩
  | some p =>
    obtain ⟨v1, l1⟩ := p
    obtain ⟨n1, h1, hv1, hl1⟩ := getVarN_some 9 _ v1 l1 hg1
    have HV1 : Hid (IsVar (s.data.toList.drop 0) n1 v1) := hv1
    have hn1 : n1 ≤ s.size := by have := hv1.2.1; simpa using this
    cases hg2 : getVarN 9 (s.data.toList.drop n1) with
    | none =>
      have HV2 : Hid (∀ n v, n ≤ 9 → ¬ IsVar (s.data.toList.drop n1) n v) := fun n v hn hv => by
        rw [getVarN_of 9 _ n v hn hv] at hg2; cases hg2
      clear hg1 hg2 hl1 hv1
      go_enter Try.func31, Try.ntmps31
      go_wp2_with fail
      refine (readVarint_ok s 0 n1 v1 hs h1 HV1 _).mono ?_
      rintro e w' ⟨rfl, rfl⟩
      go_wp2_with fail
      refine (readVarint_no s n1 hs hn1 HV2 _).mono ?_
      rintro e w' ⟨rfl, rfl⟩
      go_wp2
      exact bodyPost_ret (v := .tuple #[.int .i64 0, .int .i64 0, .int .i64 0, .int .u64 0, .bool false]) (by simp [results, Try.results31, go_sem]) rfl ⟨rfl, rfl⟩
    | some p2 =>
      obtain ⟨v2, l2⟩ := p2
      obtain ⟨n2, h2, hv2, hl2⟩ := getVarN_some 9 _ v2 l2 hg2
      have HV2 : Hid (IsVar (s.data.toList.drop n1) n2 v2) := hv2
      have hbig : 1048576 < v2 / 2 := h.out n1 n2 v2 ⟨h1, h2, ⟨v1, hv1⟩, hv2⟩
      have hlt : v2 < 9223372036854775808 := by have := isVar_lt hv2 h2; omega
      clear hg1 hg2 hl1 hv1 hv2 hl2
      go_enter Try.func31, Try.ntmps31
      go_wp2_with fail
      refine (readVarint_ok s 0 n1 v1 hs h1 HV1 _).mono ?_
      rintro e w' ⟨rfl, rfl⟩
      go_wp2_with fail
      refine (readVarint_ok s n1 n2 v2 hs h2 HV2 _).mono ?_
      rintro e w' ⟨rfl, rfl⟩
      go_wp2
      exact bodyPost_ret (v := .tuple #[.int .i64 0, .int .i64 0, .int .i64 0, .int .u64 0, .bool false]) (by simp [results, Try.results31, go_sem]) rfl ⟨rfl, rfl⟩
end Go.Proofs.Qxb6608833a
