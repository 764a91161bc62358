/-
  The walks of binary.Uvarint, layout, unpackString, ZZMessage and Text.
-/
import Derived.Test.Qxb6608833aDecode
import Derived.Lib.ConvBytes
import Derived.Laws.IdiomStrings
namespace Go.Proofs.Qxb6608833a
open Go.RowKit

set_option maxRecDepth 100000 in
set_option maxHeartbeats 400000 in
theorem binUvarint_any (l : List UInt8) (b off len cap n v : Nat) (w : World) (hlen : len ≤ l.length) (hsm : l.length ≤ 4194304) (hcells : Hid (∀ j, j < len → w.cell? ⟨b, off + j, none⟩ = some (.int .u8 (at' l j)))) (hn : n ≤ 9) (hnl : n ≤ len) (hv : Hid (IsVar l n v)) :
    Calls Try.prog 72 #[.slice (some ⟨b, off, none⟩) len cap] w fun e w' => e = .returned (.tuple #[.int .u64 v, .int .i64 n]) ∧ w' = w := by
  have hn1 : 1 ≤ n := hv.out.1
  go_enter Try.func72, Try.ntmps72
  go_wp2
  go_loop [4, 5, 10] (fun x s i => ∃ k : Nat, k < n ∧ i = .int .i64 k ∧ s = .int .u64 (7 * k : Nat) ∧ x = .int .u64 (vval (l.take k) : Nat)) (fun _ _ i => 9 - (intOf i).toNat)
  case atStart => exact ⟨0, by omega, rfl, rfl, rfl⟩
  case round =>
    obtain ⟨k, hk, rfl, rfl, rfl⟩ := hrel
    have hcell := hcells.out k (by omega)
    have hlt := vtake_lt l k
    have hst := vtake l k (by omega)
    have hat := at_lt l k
    have HOR : Hid (bits .or .u64 ((vval (l.take k) : Nat) : Int) (IntKind.u64.wrap (((at' l k : Nat) : Int) % 128 * 2 ^ (7 * k))) = ((vval (l.take (k + 1)) : Nat) : Int)) := by
      show bits .or .u64 ((vval (l.take k) : Nat) : Int) (IntKind.u64.wrap (((at' l k : Nat) : Int) % 128 * 2 ^ (7 * k))) = ((vval (l.take (k + 1)) : Nat) : Int)
      rw [or_shift _ _ k hlt (by omega), hst]
    have hand := mask7 (at' l k) hat
    clear hst hlt
    have hk10 : ((k : Int) == 10) = false := by simp; omega
    by_cases hl : k + 1 < n
    · have h128 : 128 ≤ ((at' l k : Nat) : Int) := by
        have := hv.out.2.2.2.1 k hl
        omega
      generalize vval (l.take k) = u at *
      go_wp2
      go_round
      case rel => exact ⟨k + 1, by omega, by go_num, by go_num, by rw [HOR.out]⟩
      case measure => simp [intOf]; omega
    · obtain rfl : n = k + 1 := by omega
      have h128 : ((at' l k : Nat) : Int) < 128 := by
        have := hv.out.2.2.1
        rw [Nat.add_sub_cancel] at this
        omega
      have HV : Hid (v = vval (l.take (k + 1))) := hv.out.2.2.2.2
      have hk9 : ((k : Int) == 9) = false := by simp; omega
      generalize vval (l.take k) = u at *
      have HOR2 : Hid (bits .or .u64 (u : Int) (IntKind.u64.wrap (((at' l k : Nat) : Int) * 2 ^ (7 * k))) = ((vval (l.take (k + 1)) : Nat) : Int)) := by
        have := HOR.out
        rw [show ((at' l k : Nat) : Int) % 128 = ((at' l k : Nat) : Int) by omega] at this
        exact this
      go_wp2
      go_ret2
      refine ⟨?_, rfl⟩
      rw [HV.out, HOR2.out]
      rfl

/-! ### ZZMessage, layout -/

theorem run_alloc51 (w : World) : (Instr.alloc 51 true (.tuple #[])).run Try.prog w = .ok (.pointer (some ⟨w.heap.size, 0, none⟩)) (w.alloc (.cells #[.string ByteArray.empty] 51)) := by kernel_rfl

set_option maxRecDepth 100000 in
theorem message_any (s : ByteArray) (w : World) :
    Calls Try.prog 33 #[.string s] w fun e w' => e = .returned (.agg #[.string s]) ∧ Below w.heap.size w w' := by
  go_enter Try.func33, Try.ntmps33
  go_wp2
  exact bodyPost_ret (v := .agg #[.string s]) (by simp [results, Try.results33, go_sem]) rfl ⟨rfl, (Below.refl _ _).alloc (Nat.le_refl _) _⟩

section
variable {ops : Array Oper} {rest : List Oper} {o : Oper} {a : Act} {w : World} {Q : Exit → Act → World → Prop}
theorem wpList_tobytes (hgd : o.guard = none) (x : Operand) (ho : o.op = .convert 9 22 x) (t : ByteArray) (hx : a.eval x = .string t) (hsm : t.size ≤ 4194304)
    (h : ∀ c w', t.size ≤ c → c ≤ 9223372036854775807 → (∀ j, j < t.size → w'.cell? ⟨w.heap.size, j, none⟩ = some (.int .u8 (at' t.data.toList j))) → Below w.heap.size w w' →
      wpList Try.prog ops Q rest (a.put o.dst (.slice (some ⟨w.heap.size, 0, none⟩) t.size c)) w') : wpList Try.prog ops Q (o :: rest) a w := by
  have hr := Lib.run_convert_string_bytes (P := Try.prog) w 9 22 5 t Try.underlying9 Try.underlying22 Try.underlying5
  refine wpList_run hgd ?_ (h (grownCap w t.size 0 5) (Lib.bytesWorld w 5 t) (grownCap_ge w _ _ _) (grownCap_le_maxLen w _ _ _ (by unfold maxLen; omega)) (fun j hj => Lib.bytesWorld_cell w 5 t j hj) ?_)
  · unfold execOp
    simp only [ho]
    simp [hx, hr]
  · refine ⟨?_, ?_, ?_, by rw [Lib.bytesWorld_size]; omega, fun k hk => Lib.bytesWorld_at_old w 5 t k hk⟩
    · simp [Lib.bytesWorld, World.freeze]; rfl
    · simp [Lib.bytesWorld, World.freeze]
    · simp [Lib.bytesWorld, World.freeze]; rfl

theorem wpList_tostring (hgd : o.guard = none) (x : Operand) (ho : o.op = .convert 22 9 x) (B : Nat) (v : Value) (l : List UInt8) (hx : a.eval x = v) (hown : Own w B v l)
    (h : wpList Try.prog ops Q rest (a.put o.dst (.string ⟨l.toArray⟩)) w) : wpList Try.prog ops Q (o :: rest) a w := by
  obtain ⟨g, cap, hv, _, _⟩ := hown.shape
  subst hv
  have hr := run_convert_bytes_back (P := Try.prog) w 22 9 5 ⟨g, 0, none⟩ cap l Try.underlying22 Try.underlying5 Try.underlying9 (fun j hj => by
    have hadd : (⟨g, 0, none⟩ : Addr).add j = ⟨g, j, none⟩ := by unfold Addr.add; split <;> simp_all
    rw [hadd, hown.cell.2 j hj]
    unfold at'
    rw [List.getD_eq_getElem?_getD, List.getElem?_eq_getElem hj]
    rfl)
  refine wpList_run hgd ?_ h
  unfold execOp
  simp only [ho]
  simp [hx, hr]
end

set_option maxRecDepth 100000 in
set_option maxHeartbeats 400000 in
theorem layout_any (s : ByteArray) (n1 n2 v2 : Nat) (hs : s.size ≤ 4194304) (h : Hid (Header s.data.toList n1 n2 v2)) (w : World) :
    Calls Try.prog 50 #[.agg #[.string s]] w fun e w' => ∃ (v1 : Int) (b : Bool), e = .returned (.tuple #[.int .i64 v1, .int .i64 (v2 / 2 : Nat), .bool b, .string (s.extract (n1 + n2) s.size)]) ∧ Below w.heap.size w w' := by
  obtain ⟨h1, h2, ⟨v1, hv1⟩, hv2⟩ := h
  have HV1 : Hid (IsVar s.data.toList n1 v1) := hv1
  have HV2 : Hid (IsVar (s.data.toList.drop n1) n2 v2) := hv2
  have hl1 : v1 < 9223372036854775808 := by have := isVar_lt hv1 h1; omega
  have hl2 : v2 < 9223372036854775808 := by have := isVar_lt hv2 h2; omega
  have hn : n1 + n2 ≤ s.size := by
    have a1 := hv1.2.1
    have a2 := hv2.2.1
    rw [List.length_drop, list_size] at a2
    rw [list_size] at a1
    omega
  have hm1 : bits .and .u64 (v2 : Int) 1 = ((v2 % 2 : Nat) : Int) := by
    have := u64_and_nat v2 1 (by omega) (by omega)
    rw [nat_mask1] at this
    exact this
  have hn2 : 1 ≤ n2 := hv2.1
  clear hv1 hv2
  by_cases hk : s.size ≤ 20
  · go_enter Try.func50, Try.ntmps50
    go_wp2_with (first | (refine wpList_tobytes rfl _ rfl _ rfl (by omega) ?_; intro c w2 q1 q2 q3 q4))
    have hnn : n1 + n2 ≤ s.size := by omega
    have HC : Hid (∀ j, j < s.size → w2.cell? ⟨w.heap.size + 1, j, none⟩ = some (.int .u8 (at' s.data.toList j))) := by
      intro j hj
      have := q3 j hj
      simpa using this
    have hold : w2.cell? ⟨w.heap.size, 0, none⟩ = some (.string s) := by
      rw [q4.cell (p := ⟨w.heap.size, 0, none⟩) (by simp)]
      rw [cell_of_row _ _ 0 _ 51 (0, 0) (heap_alloc_new w _)]; rfl
    have Q4 : Hid (Below w.heap.size w w2) := ((Below.refl _ _).alloc (Nat.le_refl _) _).trans (q4.mono (by simp))
    clear q3 q4
    refine (binUvarint_any s.data.toList (w.heap.size + 1) 0 (s.size) c n1 v1 w2 (by rw [list_size]; omega) (by rw [list_size]; omega) (fun j hj => by rw [Nat.zero_add]; exact HC.out j hj) h1 (by omega) HV1).mono ?_
    rintro e w' ⟨rfl, rfl⟩
    go_wp2_with fail
    refine (binUvarint_any (s.data.toList.drop n1) (w.heap.size + 1) n1 (s.size - n1) (c - n1) n2 v2 _ (by rw [List.length_drop, list_size]; omega) (by rw [List.length_drop, list_size]; omega) (fun j hj => by rw [at_drop]; exact HC.out (n1 + j) (by omega)) h2 (by omega) HV2).mono ?_
    rintro e w' ⟨rfl, rfl⟩
    go_wp2
    go_quiet (fail)
    go_wp2
    refine bodyPost_ret (v := .tuple #[.int .i64 v1, .int .i64 (v2 / 2 : Nat), .bool ((v2 : Int) % 2 == 1), .string (s.extract (n1 + n2) s.size)]) (by simp [results, Try.results50, go_sem]) rfl ⟨_, _, rfl, ?_⟩
    exact bel_drewN Q4.out _
  · have hks : (s.extract 0 20).size ≤ 4194304 := by rw [ByteArray.size_extract]; omega
    go_enter Try.func50, Try.ntmps50
    go_wp2_with (first | (refine wpList_tobytes rfl _ rfl _ rfl hks ?_; intro c w2 q1 q2 q3 q4))
    have hmin : min 20 s.size = 20 := by omega
    have q1' : 20 ≤ c := by rw [ByteArray.size_extract] at q1; omega
    rw [hmin]
    clear hmin q1
    have hnn : n1 + n2 ≤ 20 := by omega
    have HC : Hid (∀ j, j < 20 → w2.cell? ⟨w.heap.size + 1, j, none⟩ = some (.int .u8 (at' s.data.toList j))) := by
      intro j hj
      have := q3 j (by rw [ByteArray.size_extract]; omega)
      rw [list_upto] at this
      have e : at' (s.data.toList.take 20) j = at' s.data.toList j := by
        unfold at'
        rw [List.getD_eq_getElem?_getD, List.getElem?_take, if_pos hj, ← List.getD_eq_getElem?_getD]
      rw [e] at this
      simpa using this
    have hold : w2.cell? ⟨w.heap.size, 0, none⟩ = some (.string s) := by
      rw [q4.cell (p := ⟨w.heap.size, 0, none⟩) (by simp)]
      rw [cell_of_row _ _ 0 _ 51 (0, 0) (heap_alloc_new w _)]; rfl
    have Q4 : Hid (Below w.heap.size w w2) := ((Below.refl _ _).alloc (Nat.le_refl _) _).trans (q4.mono (by simp))
    clear q3 q4
    refine (binUvarint_any s.data.toList (w.heap.size + 1) 0 (20) c n1 v1 w2 (by rw [list_size]; omega) (by rw [list_size]; omega) (fun j hj => by rw [Nat.zero_add]; exact HC.out j hj) h1 (by omega) HV1).mono ?_
    rintro e w' ⟨rfl, rfl⟩
    go_wp2_with fail
    refine (binUvarint_any (s.data.toList.drop n1) (w.heap.size + 1) n1 (20 - n1) (c - n1) n2 v2 _ (by rw [List.length_drop, list_size]; omega) (by rw [List.length_drop, list_size]; omega) (fun j hj => by rw [at_drop]; exact HC.out (n1 + j) (by omega)) h2 (by omega) HV2).mono ?_
    rintro e w' ⟨rfl, rfl⟩
    go_wp2
    go_quiet (fail)
    go_wp2
    refine bodyPost_ret (v := .tuple #[.int .i64 v1, .int .i64 (v2 / 2 : Nat), .bool ((v2 : Int) % 2 == 1), .string (s.extract (n1 + n2) s.size)]) (by simp [results, Try.results50, go_sem]) rfl ⟨_, _, rfl, ?_⟩
    exact bel_drewN Q4.out _

/-! ### unpackString, Text -/

def zeros512 : Array Value := Array.replicate 512 (.int .u8 0)
theorem run_alloc141 (w : World) : (Instr.alloc 141 true (.tuple #[])).run Try.prog w = .ok (.pointer (some ⟨w.heap.size, 0, none⟩)) (w.alloc (.cells zeros512 141)) := by
  have hz : (zeroValue 141).run Try.prog w = .ok (.agg zeros512) w := by kernel_rfl
  simp [Instr.alloc, hz, newVar, newRow, Value.cells, go_sem]

theorem own_buf (w : World) : Own (w.alloc (.cells zeros512 141)) w.heap.size (.slice (some ⟨w.heap.size, 0, none⟩) 0 512) [] :=
  ⟨w.heap.size, 512, zeros512, 141, rfl, Nat.le_refl _, heap_alloc_new w _, by simp [zeros512], by simp, by unfold maxLen; omega, by simp [bcs]⟩

section
variable {ops : Array Oper} {rest : List Oper} {o : Oper} {a : Act} {w : World} {Q : Exit → Act → World → Prop}
theorem wpList_alloc141 (hgd : o.guard = none) (ho : o.op = .alloc 141)
    (h : wpList Try.prog ops Q rest (a.put o.dst (.pointer (some ⟨w.heap.size, 0, none⟩))) (w.alloc (.cells zeros512 141))) : wpList Try.prog ops Q (o :: rest) a w := by
  refine wpList_run hgd ?_ h
  unfold execOp
  simp [ho, run_alloc141]
end

set_option maxRecDepth 100000 in
set_option maxHeartbeats 400000 in
theorem unpackString_any (s : ByteArray) (want : Nat) (res : List UInt8) (w : World) (hs : s.size ≤ 4194304) (hw : want ≤ 1048576)
    (hdec : Hid (dec (s.size + 1) s.data.toList want [] = some res)) :
    Calls Try.prog 51 #[.string s, .int .i64 want] w fun e w' => e = .returned (.string ⟨(res.take want).toArray⟩) ∧ Below w.heap.size w w' := by
  have O1 : Hid (Own (w.alloc (.cells zeros512 141)) w.heap.size (.slice (some ⟨w.heap.size, 0, none⟩) 0 512) []) := own_buf w
  go_enter Try.func51, Try.ntmps51
  go_wp2_with (first | (refine wpList_alloc141 rfl rfl ?_))
  refine (unpack_any w.heap.size _ s want res _ O1 (by simp) hs hw hdec).mono ?_
  rintro e w2 ⟨v2, rfl, o2, b2⟩
  have B2 : Hid (Below w.heap.size w w2) := ((Below.refl _ _).alloc (Nat.le_refl _) _).trans b2
  clear b2
  go_wp2_with (first | (refine wpList_tostring rfl _ rfl w.heap.size _ _ rfl o2 ?_))
  go_ret
  exact ⟨rfl, B2.out⟩

set_option maxRecDepth 100000 in
set_option maxHeartbeats 400000 in
theorem text_any (s : ByteArray) (n1 n2 v2 : Nat) (res : List UInt8) (w : World) (hs : s.size ≤ 4194304) (h : Hid (Header s.data.toList n1 n2 v2)) (hT : v2 / 2 ≤ 1048576)
    (f : Nat) (hf : s.size < f) (hdec : Hid (dec f (s.data.toList.drop (n1 + n2)) (v2 / 2) [] = some res)) :
    Calls Try.prog 34 #[.agg #[.string s]] w fun e w' => e = .returned (.string ⟨(res.take (v2 / 2)).toArray⟩) ∧ Below w.heap.size w w' := by
  have hes : (s.extract (n1 + n2) s.size).size ≤ 4194304 := by rw [ByteArray.size_extract]; omega
  have hd2 : Hid (dec ((s.extract (n1 + n2) s.size).size + 1) (s.extract (n1 + n2) s.size).data.toList (v2 / 2) [] = some res) := by
    show dec ((s.extract (n1 + n2) s.size).size + 1) (s.extract (n1 + n2) s.size).data.toList (v2 / 2) [] = some res
    rw [list_from]
    refine dec_fuel f _ _ _ _ _ ?_ ?_ hdec.out
    · rw [List.length_drop, list_size]; omega
    · rw [List.length_drop, list_size, ByteArray.size_extract]; omega
  have hc : (w.alloc (.cells #[.string s] 51)).cell? ⟨w.heap.size, 0, none⟩ = some (.string s) := by
    rw [cell_of_row _ _ 0 _ 51 (0, 0) (heap_alloc_new w _)]; rfl
  go_enter Try.func34, Try.ntmps34
  go_wp2_with fail
  refine (layout_any s n1 n2 v2 hs h _).mono ?_
  rintro e w2 ⟨v1, b, rfl, b2⟩
  have B2 : Hid (Below w.heap.size w w2) := ((Below.refl _ _).alloc (Nat.le_refl _) _).trans (b2.mono (by simp))
  clear b2
  generalize s.extract (n1 + n2) s.size = r at *
  go_wp2_with fail
  refine (unpackString_any r (v2 / 2) res w2 hes hT hd2).mono ?_
  rintro e w3 ⟨rfl, b3⟩
  have B3 : Hid (Below w.heap.size w w3) := B2.out.trans (b3.mono (by have := B2.out.size; exact this))
  clear b3
  go_wp2
  go_ret
  exact ⟨rfl, B3.out⟩
end Go.Proofs.Qxb6608833a
