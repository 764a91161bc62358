/-
  The walk of UnpackPrefix.
-/
import Derived.Test.Qxb6608833aRep
namespace Go.Proofs.Qxb6608833a
open Go.RowKit

def strLen : Value → Nat | .string s => s.size | _ => 0

theorem list_size (s : ByteArray) : s.data.toList.length = s.size := by simp
theorem list_extract (s : ByteArray) (a b : Nat) : (s.extract a b).data.toList = (s.data.toList.drop a).take (b - a) := by
  simp [ByteArray.data_extract, List.extract_eq_take_drop]
theorem list_from (s : ByteArray) (a : Nat) : (s.extract a s.size).data.toList = s.data.toList.drop a := by
  rw [list_extract, List.take_of_length_le (by rw [List.length_drop, list_size]; omega)]
theorem list_upto (s : ByteArray) (b : Nat) : (s.extract 0 b).data.toList = s.data.toList.take b := by
  rw [list_extract]; simp

theorem uvarint_list (s : ByteArray) (v : Nat) (r : List UInt8) (hs : s.size ≤ 4194304) (hv : Hid (getVarN 9 s.data.toList = some (v, r))) (w : World) :
    Calls Try.prog 80 #[.string s] w fun e w' => ∃ l1 : ByteArray, e = .returned (.tuple #[.int .u64 v, .string l1]) ∧ l1.data.toList = r ∧ ∃ nq, w' = w.drewN nq := by
  obtain ⟨n, hn, hi, rfl⟩ := getVarN_some 9 _ v r hv.out
  refine (uvarint_any s n v hs hn hi w).mono ?_
  rintro e w' ⟨rfl, h⟩
  exact ⟨_, rfl, list_from s n, h⟩

theorem src_str (s : ByteArray) (w : World) : Src Try.prog 1 9 (.string s) s.data.toList.length (bcs s.data.toList) w := by
  rw [list_size]; exact Src.ofString w Try.underlying9 s

theorem small2 (a : List UInt8) (r : ByteArray) (i j : Nat) (h1 : a.length ≤ 8388608) (h2 : r.size ≤ 4194304) : a.length + (r.extract i j).data.toList.length ≤ 1099511627776 := by
  rw [list_size]
  have : (r.extract i j).size ≤ r.size := by rw [ByteArray.size_extract]; omega
  omega

theorem bel_drewN {B : Nat} {a w : World} (h : Below B a w) (n : Nat) : Below B a (w.drewN n) := ⟨h.os, h.tape, h.output, h.size, h.block⟩

theorem take_lit (out l1 : List UInt8) (want k : Nat) (h : out.length < want) (hk : out.length + k ≤ want) (m : Nat) (hm : k = m ∨ (out.length + k = want ∧ k ≤ m)) :
    out.take want ++ l1.take k = (out ++ l1.take m).take want := by
  have e : out.take want = out := List.take_of_length_le (by omega)
  rw [List.take_append, e]
  congr 1
  rw [List.take_take]
  rcases hm with rfl | ⟨h1, h2⟩
  · rw [Nat.min_eq_right (by omega)]
  · rw [Nat.min_eq_left (by omega)]; congr 1; omega

theorem take_rep (out : List UInt8) (back want k m : Nat) (hm : (k = m ∧ out.length + k ≤ want) ∨ (out.length + k = want ∧ k ≤ m)) :
    rep out back k = (rep out back m).take want := by
  rcases hm with ⟨rfl, h1⟩ | ⟨h1, h2⟩
  · rw [List.take_of_length_le (by rw [rep_length]; omega)]
  · rw [← h1, rep_take _ _ _ _ h2]

set_option maxRecDepth 100000 in
set_option maxHeartbeats 400000 in
theorem unpack_any (B : Nat) (v : Value) (s : ByteArray) (want : Nat) (res : List UInt8) (w : World) (hown : Hid (Own w B v [])) (hB : B ≤ w.heap.size) (hs : s.size ≤ 4194304) (hw : want ≤ 1048576)
    (hdec : Hid (dec (s.size + 1) s.data.toList want [] = some res)) :
    Calls Try.prog 73 #[v, .string s, .int .i64 want] w fun e w' => ∃ v', e = .returned v' ∧ Own w' B v' (res.take want) ∧ Below B w w' := by
  go_enter Try.func73, Try.ntmps73
  go_wp2
  go_loopw [0, 1, 2] (fun d p m wr => ∃ (l : ByteArray) (out : List UInt8) (f : Nat), l.size ≤ s.size ∧ p = .string l ∧ m = .int .i64 ((want : Int) - out.length) ∧ Own wr B d (out.take want) ∧ Below B w wr ∧ l.size < f ∧ dec f l.data.toList want out = some res ∧ out.length ≤ 8388608) (fun _ p _ _ => strLen p)
  case atStart => exact ⟨s, [], s.size + 1, Nat.le_refl _, rfl, by simp, by simpa using hown.out, Below.refl _ _, by omega, hdec.out, by simp⟩
  case round =>
    obtain ⟨l, out, f, hl, rfl, rfl, o2, b2, hf, hd, hob⟩ := hrel
    have hbel : B ≤ wr.heap.size := Nat.le_trans hB b2.size
    have O2 : Hid (Own wr B u0 (out.take want)) := o2
    have B2 : Hid (Below B w wr) := b2
    clear o2 b2
    obtain ⟨f, rfl⟩ : ∃ f', f = f' + 1 := ⟨f - 1, by omega⟩
    rcases dec_cases hd with ⟨hs', hres⟩ | ⟨h0, h1, tag, l1, hv, hcase⟩
    · have HRES : Hid (res = out) := hres
      clear hres hd
      by_cases hem0 : l.toList.isEmpty = true
      · have hne : l.toList = [] := by simpa using hem0
        go_wp2
        go_ret
        exact ⟨_, rfl, by rw [HRES.out]; exact O2.out, B2.out⟩
      · have hem : l.toList.isEmpty = false := by simpa using hem0
        have hne : ¬ l.toList = [] := by simpa using hem
        have hwo : want ≤ out.length := by
          rcases hs' with h | h
          · rw [ByteArray.toList_eq] at hne; exact absurd h hne
          · exact h
        clear hs' hem0
        go_wp2
        go_ret
        exact ⟨_, rfl, by rw [HRES.out]; exact O2.out, B2.out⟩
    · have HV : Hid (getVarN 9 l.data.toList = some (tag, l1)) := hv
      clear hv hd
      have hne : ¬ l.toList = [] := by rw [ByteArray.toList_eq]; exact h0
      have hem : l.toList.isEmpty = false := by rw [ByteArray.toList_eq]; simpa using h0
      clear h0
      have hlen : l1.length < l.size := by have := getVarN_shorter HV.out; rwa [list_size] at this
      have htag : tag < 9223372036854775808 := by
        obtain ⟨n, hn, hi, _⟩ := getVarN_some 9 _ _ _ HV.out
        have := isVar_lt hi hn; omega
      have hm1 : bits .and .u64 (tag : Int) 1 = ((tag % 2 : Nat) : Int) := by
        have := u64_and_nat tag 1 (by omega) (by omega)
        rw [nat_mask1] at this
        exact this
      rcases hcase with ⟨ht, hle, hd2⟩ | ⟨ht, dist, l2, hv2, h3, h4, hd2⟩
      · have ht' : ((tag % 2 : Nat) : Int) = 0 := by omega
        have HD : Hid (dec f (l1.drop (tag / 2)) want (out ++ l1.take (tag / 2)) = some res) := hd2
        clear hd2
        go_wp2_with fail
        refine (uvarint_list l tag l1 (by omega) HV _).mono ?_
        rintro e w' ⟨r, rfl, hr, nq, rfl⟩
        have HR : Hid (r.data.toList = l1) := hr
        have hrs : r.size = l1.length := by rw [← list_size, hr]
        have HRS : Hid (r.size = l1.length) := hrs
        have hrb : r.size ≤ 4194304 := by omega
        have hrt : tag / 2 ≤ r.size := by omega
        clear hr hrs
        have O3 : Hid (Own (wr.drewN nq) B u0 (out.take want)) := O2.out
        have hbel3 : B ≤ (wr.drewN nq).heap.size := hbel
        by_cases hmin : tag / 2 ≤ want - out.length
        · go_wp2_with (at_builtin; go_must (refine wpList_app rfl _ _ 9 rfl B _ _ _ _ rfl rfl O3.out hbel3 (src_str _ _) (small2 _ _ _ _ (by rw [List.length_take]; omega) hrb) ?_); intro v3 w3 o3 b3)
          go_roundw
          case rel =>
            refine ⟨r.extract (tag / 2) r.size, out ++ l1.take (tag / 2), f, ?_, rfl, ?_, ?_, (bel_drewN B2.out nq).trans b3, ?_, ?_, ?_⟩
            · rw [ByteArray.size_extract]; have := HRS.out; omega
            · rw [List.length_append, List.length_take, Nat.min_eq_left (by omega)]; go_num
            · rw [list_upto, HR.out, take_lit out l1 want (tag / 2) h1 (by omega) (tag / 2) (Or.inl rfl)] at o3
              exact o3
            · rw [ByteArray.size_extract]; have := HRS.out; omega
            · rw [list_from, HR.out]; exact HD.out
            · rw [List.length_append, List.length_take]; omega
          case measure =>
            show (r.extract (tag / 2) r.size).size < l.size
            rw [ByteArray.size_extract]; have := HRS.out; omega
        · have hm2 : (want : Int) - (out.length : Int) < (tag : Int) / 2 := by omega
          go_wp2_with (at_builtin; go_must (refine wpList_app rfl _ _ 9 rfl B _ _ _ _ rfl rfl O3.out hbel3 (src_str _ _) (small2 _ _ _ _ (by rw [List.length_take]; omega) hrb) ?_); intro v3 w3 o3 b3)
          go_roundw
          case rel =>
            refine ⟨r.extract (tag / 2) r.size, out ++ l1.take (tag / 2), f, ?_, rfl, ?_, ?_, (bel_drewN B2.out nq).trans b3, ?_, ?_, ?_⟩
            · rw [ByteArray.size_extract]; have := HRS.out; omega
            · rw [List.length_append, List.length_take, Nat.min_eq_left (by omega)]; go_num
            · rw [list_upto, HR.out, take_lit out l1 want (want - out.length) h1 (by omega) (tag / 2) (Or.inr ⟨by omega, by omega⟩)] at o3
              exact o3
            · rw [ByteArray.size_extract]; have := HRS.out; omega
            · rw [list_from, HR.out]; exact HD.out
            · rw [List.length_append, List.length_take]; omega
          case measure =>
            show (r.extract (tag / 2) r.size).size < l.size
            rw [ByteArray.size_extract]; have := HRS.out; omega
      · have ht' : ¬ ((tag % 2 : Nat) : Int) = 0 := by omega
        have hteq : (((tag % 2 : Nat) : Int) == 0) = false := by simpa using ht'
        have HD : Hid (dec f l2 want (rep out (dist + 1) (tag / 2 + 4)) = some res) := hd2
        have HV2 : Hid (getVarN 9 l1 = some (dist, l2)) := hv2
        have hlen2 : l2.length < l1.length := getVarN_shorter hv2
        clear hd2 hv2
        go_wp2_with fail
        refine (uvarint_list l tag l1 (by omega) HV _).mono ?_
        rintro e w' ⟨r, rfl, hr, nq, rfl⟩
        have HR : Hid (r.data.toList = l1) := hr
        have HRS : Hid (r.size = l1.length) := by show r.size = l1.length; rw [← list_size, hr]
        have hrb : r.size ≤ 4194304 := by have := HRS.out; omega
        clear hr
        go_wp2_with fail
        have HV3 : Hid (getVarN 9 r.data.toList = some (dist, l2)) := by show getVarN 9 r.data.toList = some (dist, l2); rw [HR.out]; exact HV2.out
        refine (uvarint_list r dist l2 hrb HV3 _).mono ?_
        rintro e w' ⟨r2, rfl, hr2, nq2, rfl⟩
        have HR2 : Hid (r2.data.toList = l2) := hr2
        have HRS2 : Hid (r2.size = l2.length) := by show r2.size = l2.length; rw [← list_size, hr2]
        clear hr2
        have eout : out.take want = out := List.take_of_length_le (by omega)
        have O3 : Hid (Own (wr.drewN (nq + nq2)) B u0 out) := by
          have := O2.out
          rw [eout] at this
          exact this
        clear eout
        have B3 : Hid (Below B w (wr.drewN (nq + nq2))) := bel_drewN B2.out (nq + nq2)
        have hbel3 : B ≤ (wr.drewN (nq + nq2)).heap.size := hbel
        by_cases hmin : tag / 2 + 4 ≤ want - out.length
        · go_wp2_with fail
          rw [show ((dist : Int) + 1) = ((dist + 1 : Nat) : Int) by omega, show ((tag : Int) / 2 + 4) = ((tag / 2 + 4 : Nat) : Int) by omega]
          refine (repeat_any B u0 out (dist + 1) (tag / 2 + 4) _ O3 hbel3 (by omega) (by omega) (by omega)).mono ?_
          rintro e w3 ⟨v3, rfl, o3, b3⟩
          have T3 : Hid (Own w3 B v3 ((rep out (dist + 1) (tag / 2 + 4)).take want)) := by
            rw [take_rep out (dist + 1) want (tag / 2 + 4) (tag / 2 + 4) (Or.inl ⟨rfl, by omega⟩)] at o3
            exact o3
          have B4 : Hid (Below B w w3) := B3.out.trans b3
          clear o3 b3
          go_wp2
          go_roundw
          case rel =>
            refine ⟨r2, rep out (dist + 1) (tag / 2 + 4), f, ?_, rfl, ?_, T3.out, B4.out, ?_, ?_, ?_⟩
            · have := HRS2.out; omega
            · rw [rep_length]; go_num
            · have := HRS2.out; omega
            · rw [HR2.out]; exact HD.out
            · rw [rep_length]; omega
          case measure =>
            show r2.size < l.size
            have := HRS2.out; omega
        · have hm2 : (want : Int) - (out.length : Int) < (tag : Int) / 2 + 4 := by omega
          go_wp2_with fail
          rw [show ((dist : Int) + 1) = ((dist + 1 : Nat) : Int) by omega, show ((want : Int) - (out.length : Int)) = ((want - out.length : Nat) : Int) by omega]
          refine (repeat_any B u0 out (dist + 1) (want - out.length) _ O3 hbel3 (by omega) (by omega) (by omega)).mono ?_
          rintro e w3 ⟨v3, rfl, o3, b3⟩
          have T3 : Hid (Own w3 B v3 ((rep out (dist + 1) (tag / 2 + 4)).take want)) := by
            rw [take_rep out (dist + 1) want (want - out.length) (tag / 2 + 4) (Or.inr ⟨by omega, by omega⟩)] at o3
            exact o3
          have B4 : Hid (Below B w w3) := B3.out.trans b3
          clear o3 b3
          go_wp2
          go_roundw
          case rel =>
            refine ⟨r2, rep out (dist + 1) (tag / 2 + 4), f, ?_, rfl, ?_, T3.out, B4.out, ?_, ?_, ?_⟩
            · have := HRS2.out; omega
            · rw [rep_length]; go_num
            · have := HRS2.out; omega
            · rw [HR2.out]; exact HD.out
            · rw [rep_length]; omega
          case measure =>
            show r2.size < l.size
            have := HRS2.out; omega
end Go.Proofs.Qxb6608833a
