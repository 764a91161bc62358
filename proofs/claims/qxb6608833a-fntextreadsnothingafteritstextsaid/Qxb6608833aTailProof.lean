/-
  THE STATEMENT 'Rows.FnTextReadsNothingAfterItsTextSaid', PROVED.
-/
import Derived.Test.Qxb6608833aRows
import Derived.Test.Qxb6608833aText
import Derived.WalkKit
import Derived.ProofKit
import Derived.OpenShut
import Derived.ShutString
import Derived.Below
namespace Go.Proofs.Qxb6608833a.fnTextReadsNothingAfterItsText
open Go.ChangeShapes Go.WideShapes Go.ChangeAt Go.RowKit
open Go.ChangeMaps (open_string shut_string)

theorem own : ownKnob Try.prog.godebug = none := by kernel_rfl

theorem list_append (s t : ByteArray) : (s ++ t).data.toList = s.data.toList ++ t.data.toList := by simp

theorem isVar_append {l : List UInt8} {n v : Nat} (h : IsVar l n v) (t : List UInt8) : IsVar (l ++ t) n v := by
  obtain ⟨h1, h2, h3, h4, h5⟩ := h
  have at_app : ∀ j, j < l.length → at' (l ++ t) j = at' l j := by
    intro j hj
    unfold at'
    rw [List.getD_eq_getElem?_getD, List.getElem?_append_left hj, ← List.getD_eq_getElem?_getD]
  refine ⟨h1, by rw [List.length_append]; omega, by rw [at_app _ (by omega)]; exact h3, fun j hj => by rw [at_app _ (by omega)]; exact h4 j hj, ?_⟩
  rw [List.take_append_of_le_length h2]; exact h5

theorem header_append {l : List UInt8} {n1 n2 v2 : Nat} (h : Header l n1 n2 v2) (t : List UInt8) : Header (l ++ t) n1 n2 v2 := by
  obtain ⟨h1, h2, ⟨v1, hv1⟩, hv2⟩ := h
  refine ⟨h1, h2, ⟨v1, isVar_append hv1 t⟩, ?_⟩
  rw [List.drop_append_of_le_length hv1.2.1]
  exact isVar_append hv2 t

theorem header_len {l : List UInt8} {n1 n2 v2 : Nat} (h : Header l n1 n2 v2) : n1 + n2 ≤ l.length := by
  obtain ⟨h1, h2, ⟨v1, hv1⟩, hv2⟩ := h
  have a1 := hv1.2.1
  have a2 := hv2.2.1
  rw [List.length_drop] at a2
  omega

set_option maxRecDepth 100000 in
set_option maxHeartbeats 800000 in
theorem walk (s t : ByteArray) (w0 : s.size ≤ maxLen) (w1 : t.size ≤ maxLen) (w : World) :
    Calls Try.prog 8 #[.string s, .string t] w fun e w' => e = .returned (.bool true) ∧ Below w.heap.size w w' := by
  by_cases hsz : s.size + t.size ≤ 1048576
  · have hs : s.size ≤ 1048576 := by omega
    have ht : t.size ≤ 1048576 := by omega
    by_cases hh : ∃ n1 n2 v2, Header s.data.toList n1 n2 v2 ∧ v2 / 2 ≤ 1048576
    · obtain ⟨n1, n2, v2, hH, hT⟩ := hh
      have HH : Hid (Header s.data.toList n1 n2 v2) := hH
      have hnn : n1 + n2 ≤ s.size := by have := header_len hH; rwa [list_size] at this
      have hes : (s.extract (n1 + n2) s.size).size ≤ 4194304 := by rw [ByteArray.size_extract]; omega
      clear hH
      go_enter Try.func8, Try.ntmps8
      go_wp2_with fail
      refine (bytes8_yes s t w0 w1 hsz _).mono ?_
      rintro e w' ⟨rfl, rfl⟩
      go_wp2_with fail
      refine (textHeader_ok s n1 n2 v2 (by omega) HH hT _).mono ?_
      rintro e w' ⟨rfl, rfl⟩
      go_wp2_with fail
      rw [show ((v2 : Int) / 2) = ((v2 / 2 : Nat) : Int) by omega]
      refine (decode_any _ (v2 / 2) _ hes hT).mono ?_
      rintro e w2 ⟨b2, ⟨v, res, hD, rfl, o2⟩ | ⟨hD, rfl⟩⟩
      · have B2 : Hid (Below w'.heap.size w' w2) := b2
        obtain ⟨g, cap, hv, hc1, hc2⟩ := o2.shape
        subst hv
        rw [list_from] at hD
        have hD2 : dec (s.size + 1) (s.data.toList.drop (n1 + n2)) (v2 / 2) [] = some res := by
          refine dec_fuel _ _ _ _ _ _ ?_ ?_ hD
          · rw [List.length_drop, list_size, ByteArray.size_extract]; omega
          · rw [List.length_drop, list_size]; omega
        have HD : Hid (dec (s.size + 1) (s.data.toList.drop (n1 + n2)) (v2 / 2) [] = some res) := hD2
        clear hD hD2 o2 b2
        by_cases hlen : res.length < v2 / 2
        · go_wp2
          go_ret
          exact ⟨rfl, B2.out⟩
        · have hst : (s ++ t).size ≤ 4194304 := by simp; omega
          have HH2 : Hid (Header (s ++ t).data.toList n1 n2 v2) := by
            show Header (s ++ t).data.toList n1 n2 v2
            rw [list_append]; exact header_append HH.out _
          have HDT : Hid (dec ((s ++ t).size + 1) ((s ++ t).data.toList.drop (n1 + n2)) (v2 / 2) [] = some res) := by
            show dec ((s ++ t).size + 1) ((s ++ t).data.toList.drop (n1 + n2)) (v2 / 2) [] = some res
            rw [list_append, List.drop_append_of_le_length (by rw [list_size]; exact hnn)]
            refine dec_tail (s.size + 1) _ _ _ _ _ _ ?_ ?_ HD.out (by omega)
            · rw [List.length_drop, list_size]; omega
            · rw [List.length_append, List.length_drop, list_size, list_size]; simp; omega
          have HL : Hid ((res.take (v2 / 2)).length = v2 / 2) := by
            show (res.take (v2 / 2)).length = v2 / 2
            rw [List.length_take]; omega
          go_wp2_with fail
          refine (message_any s _).mono ?_
          rintro e w3 ⟨rfl, b3⟩
          have B3 : Hid (Below w'.heap.size w' w3) := B2.out.trans (b3.mono B2.out.size)
          clear b3
          go_wp2_with fail
          refine (text_any s n1 n2 v2 res _ (by omega) HH hT (s.size + 1) (by omega) HD).mono ?_
          rintro e w4 ⟨rfl, b4⟩
          have B4 : Hid (Below w'.heap.size w' w4) := B3.out.trans (b4.mono B3.out.size)
          clear b4
          go_wp2_with fail
          refine (message_any (s ++ t) _).mono ?_
          rintro e w5 ⟨rfl, b5⟩
          have B5 : Hid (Below w'.heap.size w' w5) := B4.out.trans (b5.mono B4.out.size)
          clear b5
          go_wp2_with fail
          refine (text_any (s ++ t) n1 n2 v2 res _ hst HH2 hT ((s ++ t).size + 1) (by omega) HDT).mono ?_
          rintro e w6 ⟨rfl, b6⟩
          have B6 : Hid (Below w'.heap.size w' w6) := B5.out.trans (b6.mono B5.out.size)
          clear b6
          go_wp2
          go_ret
          exact ⟨rfl, B6.out⟩
      · have B2 : Hid (Below w'.heap.size w' w2) := b2
        clear hD b2
        go_wp2
        go_ret
        exact ⟨rfl, B2.out⟩
    · have HH : Hid (∀ n1 n2 v2, Header s.data.toList n1 n2 v2 → 1048576 < v2 / 2) := fun n1 n2 v2 hH => by
        rcases Nat.lt_or_ge 1048576 (v2 / 2) with h | h
        · exact h
        · exact absurd ⟨n1, n2, v2, hH, h⟩ hh
      clear hh
      go_enter Try.func8, Try.ntmps8
      go_wp2_with fail
      refine (bytes8_yes s t w0 w1 hsz _).mono ?_
      rintro e w' ⟨rfl, rfl⟩
      go_wp2_with fail
      refine (textHeader_no s (by omega) HH _).mono ?_
      rintro e w' ⟨rfl, rfl⟩
      go_wp2
      go_ret
      exact ⟨rfl, Below.refl _ _⟩
  · go_enter Try.func8, Try.ntmps8
    go_wp2_with fail
    refine (bytes8_no s t w0 w1 hsz _).mono ?_
    rintro e w' ⟨rfl, rfl⟩
    go_wp2
    go_ret
    exact ⟨rfl, Below.refl _ _⟩

/-! ### THE ROW's STEP: WRITTEN OUT: LEAVE IT -/
set_option maxRecDepth 100000 in
theorem lifted (os : Os) (started : os.Started) (H : Type) (enc : TypeId × Value → H) :
    ReturnsInHanded {} Try.checked os 8 .any (Rows.fnTextReadsNothingAfterItsTextSpec.pre6 enc Try.prog Try.f8 Rows.fnTextReadsNothingAfterItsTextRow.domain false) (Rows.fnTextReadsNothingAfterItsTextSpec.post enc Try.prog Try.f8 false true false false) := by
  refine returnsInHanded_of_change (C := Try.checked) own started (by kernel_rfl) Try.func8
    (ChangeSpec.witness6 (enc := enc) (C := Try.checked) false ⟨#[], #[.string ByteArray.empty, .string ByteArray.empty], []⟩ 8 (by kernel_rfl) (by kernel_rfl) (by kernel_rfl) (by kernel_rfl)) ?_
  intro W base args ds gs before hval0 hW hcnd _
  have hval : ∀ (j : Nat) t v, Try.f8.params[j]? = some t → args[j]? = some v → Value.okWide Try.prog W .any base t v := hval0
  have hW' := hW
  obtain ⟨p, q, hA0, hV, rfl, hfz, hnd⟩ := hW
  have hA : DataW.TrodAll enc Try.prog W 0 (fun _ => true) true Try.f8.params.toList args.toList ds p := hA0
  rw [Try.params8] at hA hval
  obtain ⟨v0, vs0, d0, ds0, p0, q0, hargs, rfl, rfl, h0, r0⟩ := trodAll_cons hA
  obtain ⟨v1, vs1, d1, ds1, p1, q1, rfl, rfl, rfl, h1, r1⟩ := trodAll_cons r0
  obtain ⟨rfl, rfl, rfl⟩ := trodAll_nil r1
  obtain rfl : args = #[v0, v1] := by cases args; simp_all
  obtain ⟨rfl, rfl⟩ := trodVars_none hV
  obtain ⟨a0, rfl, rfl, rfl, w0⟩ := open_string Try.underlying9 (hval 0 9 v0 rfl rfl) h0
  obtain ⟨a1, rfl, rfl, rfl, w1⟩ := open_string Try.underlying9 (hval 1 9 v1 rfl rfl) h1
  clear hA0 hval0
  refine (walk a0 a1 w0 w1 W).mono fun e W' ⟨he, bel⟩ => ?_
  subst he
  exact ⟨_, rfl, _, _, _, [], _, [], hW', trodAll_mk1 (shut_bool Try.underlying4 _), (trodAll_cons_mk (shut_string Try.underlying9 w0) (trodAll_cons_mk (shut_string Try.underlying9 w1) trodAll_mk0)), rfl, bel.frame _, fun h => by cases h⟩

theorem over : Rows.fnTextReadsNothingAfterItsTextRow.holds Try.pinned (OpenSpec.ofChange Rows.fnTextReadsNothingAfterItsTextSpec) :=
  OpenClaim.holds_of_wide 8 Try.f8 rfl rfl rfl rfl rfl rfl rfl ⟨rfl, rfl, rfl, rfl, rfl⟩ rfl rfl rfl rfl rfl (by kernel_rfl) Try.func8 (by kernel_rfl)
    (of_decide_eq_true (by kernel_rfl)) (by unfold Func.isWrapper; first | (rw [if_pos (by decide +kernel)]; kernel_rfl) | (rw [if_neg (by decide +kernel)]; exact ⟨rfl, rfl⟩))
    (fun os started H enc _ => lifted os started H enc)

/-- THE STATEMENT -/
theorem proved : Rows.FnTextReadsNothingAfterItsTextSaid :=
  over
#print axioms proved
end Go.Proofs.Qxb6608833a.fnTextReadsNothingAfterItsText
