/-
  The message with a shorter text length: its header, its tokens; and the walk of FnTextIsTheUnpackedTextAndItsPrefixes.
-/
import Derived.Test.Qxb6608833aPut
import Derived.Deep.RegionWith
import Derived.Deep.DeepCutAuto
namespace Go.Proofs.Qxb6608833a
open Go.RowKit

theorem isVar_take {l : List UInt8} {n v : Nat} (h : IsVar l n v) : IsVar (l.take n) n v := by
  obtain ⟨h1, h2, h3, h4, h5⟩ := h
  have at_tk : ∀ j, j < n → at' (l.take n) j = at' l j := by
    intro j hj
    unfold at'
    rw [List.getD_eq_getElem?_getD, List.getElem?_take, if_pos hj, ← List.getD_eq_getElem?_getD]
  refine ⟨h1, by rw [List.length_take]; omega, by rw [at_tk _ (by omega)]; exact h3, fun j hj => by rw [at_tk _ (by omega)]; exact h4 j hj, ?_⟩
  rw [List.take_take, Nat.min_self]; exact h5

theorem isVar_app {l : List UInt8} {n v : Nat} (h : IsVar l n v) (t : List UInt8) : IsVar (l ++ t) n v := by
  obtain ⟨h1, h2, h3, h4, h5⟩ := h
  have at_ap : ∀ j, j < l.length → at' (l ++ t) j = at' l j := by
    intro j hj
    unfold at'
    rw [List.getD_eq_getElem?_getD, List.getElem?_append_left hj, ← List.getD_eq_getElem?_getD]
  refine ⟨h1, by rw [List.length_append]; omega, by rw [at_ap _ (by omega)]; exact h3, fun j hj => by rw [at_ap _ (by omega)]; exact h4 j hj, ?_⟩
  rw [List.take_append_of_le_length h2]; exact h5

/-- the short message's header -/
theorem header_short {l : List UInt8} {n1 n2 v2 : Nat} (h : Header l n1 n2 v2) (v' : Nat) (hv : v' < 72057594037927936) (r : List UInt8) :
    ∃ m2, Header (l.take n1 ++ (put 9 v' ++ r)) n1 m2 v' ∧ (l.take n1 ++ (put 9 v' ++ r)).drop (n1 + m2) = r := by
  obtain ⟨h1, h2, ⟨v1, hv1⟩, hv2⟩ := h
  have hlen : (l.take n1).length = n1 := by rw [List.length_take]; have := hv1.2.1; omega
  have hp : v' < 128 ^ 9 := by
    have e : (128 : Nat) ^ 9 = 9223372036854775808 := by decide
    rw [e]; omega
  obtain ⟨m2, hm, hi, hr⟩ := getVarN_some 9 _ _ _ (getVar_put 9 v' r (by omega) hp)
  have hd : (l.take n1 ++ (put 9 v' ++ r)).drop n1 = put 9 v' ++ r := by
    rw [List.drop_append, List.drop_eq_nil_of_le (by omega), hlen]; simp
  refine ⟨m2, ⟨h1, hm, ⟨v1, isVar_app (isVar_take hv1) _⟩, by rw [hd]; exact hi⟩, ?_⟩
  rw [← List.drop_drop, hd]; exact hr.symm

theorem put_length : ∀ f v, (put f v).length ≤ f
  | 0, v => by simp [put]
  | f + 1, v => by
    simp only [put]
    split
    · simp
    · have := put_length f (v / 128); simp; omega

theorem hdr_len {l : List UInt8} {n1 n2 v2 : Nat} (h : Header l n1 n2 v2) : n1 + n2 ≤ l.length := by
  obtain ⟨h1, h2, ⟨v1, hv1⟩, hv2⟩ := h
  have a1 := hv1.2.1
  have a2 := hv2.2.1
  rw [List.length_drop] at a2
  omega

theorem Own.cut {w : World} {B : Nat} {l : List UInt8} {g n c : Nat} (h : Own w B (.slice (some ⟨g, 0, none⟩) n c) l) (k : Nat) (hk : k ≤ l.length) : Own w B (.slice (some ⟨g, 0, none⟩) k c) (l.take k) := by
  obtain ⟨g', cap, cur, ty, hv, h1, h2, h3, h4, h5, h6⟩ := h
  injection hv with e1 e2 e3
  injection e1 with e1
  injection e1 with e1
  subst e1 e3
  have hl : (l.take k).length = k := by rw [List.length_take]; omega
  refine ⟨g, c, cur, ty, by rw [hl], h1, h2, h3, by omega, h5, ?_⟩
  rw [hl, bcs_take, ← h6, List.take_take, Nat.min_eq_left hk]

theorem hide' {p : Prop} (h : p) : Hid p := h

theorem or_one (k v : Nat) (hk : k < 4611686018427387904) : bits .or .u64 ((k : Int) * 2) ((v : Int) % 2) = 2 * (k : Int) + (v : Int) % 2 := by
  have hm := Nat.mod_lt v (show 0 < 2 by omega)
  have := u64_or_nat (k * 2) (v % 2) (by omega) (by omega)
  rw [show ((k * 2 : Nat) : Int) = (k : Int) * 2 by omega, show ((v % 2 : Nat) : Int) = (v : Int) % 2 by omega] at this
  rw [this, show k * 2 = k * 2 ^ 1 from rfl, or_hi k (v % 2) 1 (by omega)]
  omega

theorem or_wrap (k v : Nat) (hk : k < 4611686018427387904) : bits .or .u64 (IntKind.u64.wrap (IntKind.u64.wrap (k : Int) * 2)) ((v : Int) % 2) = ((2 * k + v % 2 : Nat) : Int) := by
  rw [IntWalk.u64_in (k : Int) ⟨by omega, by omega⟩, IntWalk.u64_in _ ⟨by omega, by omega⟩, or_one k v hk]
  omega

theorem putInt (x : Int) (v : Nat) (hx : x = (v : Int)) (hv : v < 72057594037927936) (w : World) :
    Calls Try.prog 35 #[.int .u64 x] w fun e w' => e = .returned (.string ⟨(put 9 v).toArray⟩) ∧ Below w.heap.size w w' := by
  rw [hx]; exact putVarint_any v hv w

theorem short_list (s : ByteArray) (a b : Nat) (p : List UInt8) : ∃ sh : ByteArray, sh = (s.extract 0 a ++ ⟨p.toArray⟩) ++ s.extract b s.size ∧ sh.data.toList = s.data.toList.take a ++ (p ++ s.data.toList.drop b) := by
  refine ⟨_, rfl, ?_⟩
  have h1 := list_upto s a
  have h2 := list_from s b
  simp only [ByteArray.data_append, Array.toList_append]
  rw [h1, h2, List.append_assoc]

theorem cut_eq (res res' : List UInt8) (T k kk : Nat) (hk : k ≤ T) (h : res'.take k = res.take k) (hkk : kk = min k (res.take T).length) :
    (⟨(res'.take k).toArray⟩ : ByteArray) = (⟨(res.take T).toArray⟩ : ByteArray).extract 0 kk := by
  apply ByteArray.ext
  apply Array.toList_inj.1
  rw [list_upto]
  show res'.take k = (res.take T).take kk
  rw [h, List.take_take, hkk, List.length_take]
  by_cases hr : res.length ≤ k
  · rw [List.take_of_length_le hr, List.take_of_length_le (by omega)]
  · congr 1; omega

set_option maxRecDepth 100000 in
set_option maxHeartbeats 2000000 in
theorem law7 (s : ByteArray) (k : Int) (hk0 : -9223372036854775808 ≤ k) (hk1 : k ≤ 9223372036854775807) (w0 : s.size ≤ maxLen) (w : World) :
    Calls Try.prog 7 #[.string s, .int .i64 k] w fun e w' => e = .returned (.bool true) ∧ Below w.heap.size w w' := by
  by_cases hs : s.size ≤ 1048576
  · by_cases hh : ∃ n1 n2 v2, Header s.data.toList n1 n2 v2 ∧ v2 / 2 ≤ 1048576
    · obtain ⟨n1, n2, v2, hH, hT⟩ := hh
      have HH : Hid (Header s.data.toList n1 n2 v2) := hH
      have hnn : n1 + n2 ≤ s.size := by have := hdr_len hH; rwa [list_size] at this
      have hes : (s.extract (n1 + n2) s.size).size ≤ 4194304 := by rw [ByteArray.size_extract]; omega
      clear hH
      go_enter Try.func7, Try.ntmps7
      go_wp2_with fail
      refine (bytes7_yes s k w0 hs _).mono ?_
      rintro e w' ⟨rfl, rfl⟩
      go_wp2_with fail
      refine (textHeader_ok s n1 n2 v2 (by omega) HH hT _).mono ?_
      rintro e w' ⟨rfl, rfl⟩
      go_wp2_with fail
      rw [show ((v2 : Int) / 2) = ((v2 / 2 : Nat) : Int) by omega]
      refine (decode_any _ (v2 / 2) _ hes hT).mono ?_
      rintro e w2 ⟨b2, ⟨v, res, hD, rfl, o2⟩ | ⟨hD, rfl⟩⟩
      · have B2 : Hid (Below w'.heap.size w' w2) := b2
        obtain ⟨g, cap, hv, hc1, hc2⟩ := o2.shape
        subst hv
        rw [list_from] at hD
        have hD2 : dec (s.size + 1) (s.data.toList.drop (n1 + n2)) (v2 / 2) [] = some res := by
          refine dec_fuel _ _ _ _ _ _ ?_ ?_ hD
          · rw [List.length_drop, list_size, ByteArray.size_extract]; omega
          · rw [List.length_drop, list_size]; omega
        have HD : Hid (dec (s.size + 1) (s.data.toList.drop (n1 + n2)) (v2 / 2) [] = some res) := hD2
        have O2 : Hid (Own w2 w'.heap.size (.slice (some ⟨g, 0, none⟩) res.length cap) res) := o2
        clear hD hD2 o2 b2
        go_upto_if 46 with fail
        go_cut [10] (fun x wq => wq = w2 ∧ ∃ m, x = .slice (some ⟨g, 0, none⟩) m cap ∧ Own w2 w'.heap.size (.slice (some ⟨g, 0, none⟩) m cap) (res.take (v2 / 2)))
        case first =>
          by_cases hlong : v2 / 2 < res.length
          · have O3 : Hid (Own w2 w'.heap.size (.slice (some ⟨g, 0, none⟩) (v2 / 2) cap) (res.take (v2 / 2))) := O2.out.cut _ (by omega)
            go_wp2
            go_meet
            case rel => exact ⟨rfl, _, rfl, O3.out⟩
          · have O3 : Hid (Own w2 w'.heap.size (.slice (some ⟨g, 0, none⟩) res.length cap) (res.take (v2 / 2))) := by
              have e : res.take (v2 / 2) = res := List.take_of_length_le (by omega)
              show Own w2 w'.heap.size (.slice (some ⟨g, 0, none⟩) res.length cap) (res.take (v2 / 2))
              rw [e]; exact O2.out
            go_wp2
            go_meet
            case rel => exact ⟨rfl, _, rfl, O3.out⟩
        case rest =>
          obtain ⟨hw2, m, hx, o3⟩ := hcut
          subst hx hw2
          have O3 := hide' o3
          clear o3 O2
          go_wp2_with fail
          refine (message_any s _).mono ?_
          rintro e w3 ⟨rfl, b3⟩
          have B3 : Hid (Below w'.heap.size w' w3) := B2.out.trans (b3.mono B2.out.size)
          have O4 := hide' (O3.out.below _ b3 (fun g c hv => (O3.out.lt g _ c hv).2))
          clear b3
          go_wp2_with fail
          refine (text_any s n1 n2 v2 res _ (by omega) HH hT (s.size + 1) (by omega) HD).mono ?_
          rintro e w4 ⟨rfl, b4⟩
          have B4 : Hid (Below w'.heap.size w' w4) := B3.out.trans (b4.mono B3.out.size)
          have O5 := hide' (O4.out.below _ b4 (fun g c hv => (O4.out.lt g _ c hv).2))
          clear b4
          by_cases hkr : 0 ≤ k ∧ k ≤ ((v2 / 2 : Nat) : Int)
          · obtain ⟨kN, rfl⟩ : ∃ kN : Nat, k = (kN : Int) := ⟨k.toNat, by omega⟩
            have hkT : kN ≤ v2 / 2 := by omega
            clear hkr
            have hlt : v2 < 9223372036854775808 := by omega
            go_wp2_with (first | (refine wpList_tostring rfl _ rfl w'.heap.size _ (res.take (v2 / 2)) rfl O5.out ?_))
            have hor : bits .or .u64 ((kN : Int) * 2) ((v2 : Int) % 2) = 2 * (kN : Int) + (v2 : Int) % 2 := or_one kN v2 (by omega)
            have E1 : Hid (2 * (kN : Int) + (v2 : Int) % 2 = ((2 * kN + v2 % 2 : Nat) : Int)) := by show 2 * (kN : Int) + (v2 : Int) % 2 = ((2 * kN + v2 % 2 : Nat) : Int); omega
            have E2 : Hid (bits .or .u64 (IntKind.u64.wrap (IntKind.u64.wrap (kN : Int) * 2)) ((v2 : Int) % 2) = ((2 * kN + v2 % 2 : Nat) : Int)) := or_wrap kN v2 (by omega)
            have HVV : Hid (2 * kN + v2 % 2 < 72057594037927936) := by show 2 * kN + v2 % 2 < 72057594037927936; omega
            have hpl : (put 9 (2 * kN + v2 % 2)).length ≤ 9 := put_length 9 _
            go_cut [13] (fun x wq => x = .string ((s.extract 0 n1 ++ ⟨(put 9 (2 * kN + v2 % 2)).toArray⟩) ++ s.extract (n1 + n2) s.size) ∧ Below w4.heap.size w4 wq)
            case first =>
              go_region_with (go_at_call 35; refine (putInt _ (2 * kN + v2 % 2) (by first | exact E1.out | exact E2.out) HVV.out _).mono ?_; rintro e w5 ⟨rfl, b5⟩)
              all_goals
                go_wp2_with fail
                go_meet
                case rel => exact ⟨rfl, ⟨b5.os, b5.tape, b5.output, b5.size, b5.block⟩⟩
            case rest =>
              obtain ⟨hx, bc⟩ := hcut
              subst hx
              have BC : Hid (Below w'.heap.size w' wc) := B4.out.trans (bc.mono B4.out.size)
              clear bc E1 E2 hor
              obtain ⟨sh, hsh, hshl⟩ := short_list s n1 (n1 + n2) (put 9 (2 * kN + v2 % 2))
              rw [← hsh]
              have hshs : sh.size ≤ 4194304 := by
                rw [← list_size, hshl]
                simp only [List.length_append, List.length_take, List.length_drop, list_size]
                omega
              obtain ⟨m2, hH2, hdrop⟩ := header_short HH.out (2 * kN + v2 % 2) HVV.out (s.data.toList.drop (n1 + n2))
              rw [← hshl] at hH2 hdrop
              obtain ⟨res', hd', ht'⟩ := dec_less (s.size + 1) (s.data.toList.drop (n1 + n2)) (v2 / 2) kN [] res (by rw [List.length_drop, list_size]; omega) hkT HD.out
              have hv2 : (2 * kN + v2 % 2) / 2 = kN := by omega
              have HDS : Hid (dec (s.size + sh.size + 1) (sh.data.toList.drop (n1 + m2)) ((2 * kN + v2 % 2) / 2) [] = some res') := by
                show dec (s.size + sh.size + 1) (sh.data.toList.drop (n1 + m2)) ((2 * kN + v2 % 2) / 2) [] = some res'
                rw [hv2, hdrop]
                refine dec_fuel _ _ _ _ _ _ ?_ ?_ hd'
                · rw [List.length_drop, list_size]; omega
                · rw [List.length_drop, list_size]; omega
              have HH2 : Hid (Header sh.data.toList n1 m2 (2 * kN + v2 % 2)) := hH2
              have HK : Hid (∀ kk, kk = min kN (res.take (v2 / 2)).length → (⟨(res'.take ((2 * kN + v2 % 2) / 2)).toArray⟩ : ByteArray) = (⟨(res.take (v2 / 2)).toArray⟩ : ByteArray).extract 0 kk) := fun kk hkk => by
                rw [hv2]; exact cut_eq res res' (v2 / 2) kN kk hkT ht' hkk
              have hT2 : (2 * kN + v2 % 2) / 2 ≤ 1048576 := by omega
              clear hsh hshl hH2 hdrop hd' ht' hv2
              have hlen2 : (res.take (v2 / 2)).length ≤ 1048576 := by rw [List.length_take]; omega
              go_wp2_with fail
              refine (message_any sh _).mono ?_
              rintro e w6 ⟨rfl, b6⟩
              have B6 : Hid (Below w'.heap.size w' w6) := BC.out.trans (b6.mono BC.out.size)
              clear b6
              go_wp2_with fail
              refine (text_any sh n1 m2 (2 * kN + v2 % 2) res' _ hshs HH2 hT2 (s.size + sh.size + 1) (by omega) HDS).mono ?_
              rintro e w7 ⟨rfl, b7⟩
              have B7 : Hid (Below w'.heap.size w' w7) := B6.out.trans (b7.mono B6.out.size)
              clear b7
              by_cases hkl : min (v2 / 2) res.length < kN
              · rw [HK.out (min (v2 / 2) res.length) (by rw [List.length_take]; omega)]
                go_wp2
                go_ret
                exact ⟨rfl, B7.out⟩
              · rw [HK.out kN (by rw [List.length_take]; omega)]
                go_wp2
                go_ret
                exact ⟨rfl, B7.out⟩
          · have hkr2 : k < 0 ∨ (v2 / 2 : Int) < k := by omega
            rcases hkr2 with hkr2 | hkr2
            · go_wp2_with (first | (refine wpList_tostring rfl _ rfl w'.heap.size _ (res.take (v2 / 2)) rfl O5.out ?_))
              go_ret
              exact ⟨rfl, B4.out⟩
            · have hkn : ¬ k < 0 := by omega
              go_wp2_with (first | (refine wpList_tostring rfl _ rfl w'.heap.size _ (res.take (v2 / 2)) rfl O5.out ?_))
              go_ret
              exact ⟨rfl, B4.out⟩
      · have B2 : Hid (Below w'.heap.size w' w2) := b2
        clear hD b2
        go_wp2
        go_ret
        exact ⟨rfl, B2.out⟩
    · have HH : Hid (∀ n1 n2 v2, Header s.data.toList n1 n2 v2 → 1048576 < v2 / 2) := fun n1 n2 v2 hH => by
        rcases Nat.lt_or_ge 1048576 (v2 / 2) with h | h
        · exact h
        · exact absurd ⟨n1, n2, v2, hH, h⟩ hh
      clear hh
      go_enter Try.func7, Try.ntmps7
      go_wp2_with fail
      refine (bytes7_yes s k w0 hs _).mono ?_
      rintro e w' ⟨rfl, rfl⟩
      go_wp2_with fail
      refine (textHeader_no s (by omega) HH _).mono ?_
      rintro e w' ⟨rfl, rfl⟩
      go_wp2
      go_ret
      exact ⟨rfl, Below.refl _ _⟩
  · go_enter Try.func7, Try.ntmps7
    go_wp2_with fail
    refine (bytes7_no s k w0 hs _).mono ?_
    rintro e w' ⟨rfl, rfl⟩
    go_wp2
    go_ret
    exact ⟨rfl, Below.refl _ _⟩
end Go.Proofs.Qxb6608833a
