/-
  The walk of putVarint.
-/
import Derived.Test.Qxb6608833aText
namespace Go.Proofs.Qxb6608833a
open Go.RowKit

def zeros10 : Array Value := Array.replicate 10 (.int .u8 0)
theorem run_make10 (w : World) : (Instr.makeSlice 22 (.int .i64 0) (.int .i64 10)).run Try.prog w = .ok (.slice (some ⟨w.heap.size, 0, none⟩) 0 10) (w.alloc (.cells zeros10 5)) := by kernel_rfl
theorem own_make10 (w : World) : Own (w.alloc (.cells zeros10 5)) w.heap.size (.slice (some ⟨w.heap.size, 0, none⟩) 0 10) [] :=
  ⟨w.heap.size, 10, zeros10, 5, rfl, Nat.le_refl _, heap_alloc_new w _, by simp [zeros10], by simp, by unfold maxLen; omega, by simp [bcs]⟩

theorem put_more (f u : Nat) (h : 128 ≤ u) : put (f + 1) u = UInt8.ofNat (u % 128 + 128) :: put f (u / 128) := by
  simp only [put]; rw [if_neg (by omega)]
theorem put_last (f u : Nat) (h : u < 128) : put (f + 1) u = [UInt8.ofNat u] := by
  simp only [put]; rw [if_pos h]

set_option maxRecDepth 100000 in
set_option maxHeartbeats 400000 in
theorem putVarint_any (v : Nat) (hv : v < 72057594037927936) (w : World) :
    Calls Try.prog 35 #[.int .u64 v] w fun e w' => e = .returned (.string ⟨(put 9 v).toArray⟩) ∧ Below w.heap.size w w' := by
  have hmk := fun w => run_make10 w
  have O1 : Hid (Own (w.alloc (.cells zeros10 5)) w.heap.size (.slice (some ⟨w.heap.size, 0, none⟩) 0 10) []) := own_make10 w
  go_enter Try.func35, Try.ntmps35
  go_wp2
  clear hmk
  have h9 : v < 128 ^ 9 := by
    have e : (128 : Nat) ^ 9 = 9223372036854775808 := by decide
    rw [e]; omega
  have H9 : Hid (v < 128 ^ 9) := h9
  clear h9
  go_loopw [0, 3] (fun x d wr => ∃ (u f : Nat) (out : List UInt8), x = .int .u64 u ∧ Own wr w.heap.size d out ∧ Below w.heap.size w wr ∧ put 9 v = out ++ put f u ∧ u < 72057594037927936 ∧ u < 128 ^ f ∧ out.length + f = 9 ∧ 1 ≤ f) (fun x _ _ => (intOf x).toNat)
  case atStart => exact ⟨v, 9, [], rfl, O1.out, (Below.refl _ _).alloc (Nat.le_refl _) _, by simp, hv, H9.out, by simp, by omega⟩
  case round =>
    obtain ⟨u, f, out, rfl, o2, b2, he, hu, huf, hof, hf1⟩ := hrel
    have hbel : w.heap.size ≤ wr.heap.size := b2.size
    obtain ⟨g, cap, hv2, hc1, hc2⟩ := o2.shape
    subst hv2
    have O2 : Hid (Own wr w.heap.size (.slice (some ⟨g, 0, none⟩) out.length cap) out) := o2
    have B2 : Hid (Below w.heap.size w wr) := b2
    obtain ⟨f, rfl⟩ : ∃ f', f = f' + 1 := ⟨f - 1, by omega⟩
    have HE : Hid (put 9 v = out ++ put (f + 1) u) := he
    have HUF : Hid (u < 128 ^ (f + 1)) := huf
    clear o2 b2 he huf
    have HSM : ∀ b : UInt8, out.length + [b].length ≤ 1099511627776 := fun b => by show out.length + 1 ≤ 1099511627776; omega
    have HSM2 : Hid (∀ b : UInt8, out.length + [b].length ≤ 1099511627776) := HSM
    clear HSM
    by_cases h : 128 ≤ u
    · have hm : bits .and .u64 (u : Int) 127 = ((u % 128 : Nat) : Int) := by
        have := u64_and_nat u 127 (by omega) (by omega)
        rw [nat_mask7] at this
        exact this
      have ho : bits .or .u8 ((u : Int) % 128) 128 = (u : Int) % 128 + 128 := by
        have hml := Nat.mod_lt u (show 0 < 128 by omega)
        have := u8_or_nat (u % 128) 128 (by omega) (by omega)
        rw [Nat.or_comm, show (128 : Nat) = 1 * 2 ^ 7 from rfl, or_hi 1 _ 7 (by omega)] at this
        rw [show ((u % 128 : Nat) : Int) = (u : Int) % 128 by omega] at this
        refine Eq.trans this ?_
        omega
      have hf2 : 1 ≤ f := by
        rcases Nat.eq_zero_or_pos f with h0 | h0
        · subst h0; have := HUF.out; simp at this; omega
        · exact h0
      have hb : (UInt8.ofNat (u % 128 + 128)).toNat = u % 128 + 128 := toNat_ofNat _ (by omega)
      have O5 : Hid (Own (wr.alloc (.cells #[.int .u8 ((u : Int) % 128 + 128)] 5)) w.heap.size (.slice (some ⟨g, 0, none⟩) out.length cap) out) := O2.out.alloc _
      have S5 : Hid (Src Try.prog 1 22 (.slice (some ⟨wr.heap.size, 0, none⟩) 1 1) [UInt8.ofNat (u % 128 + 128)].length (bcs [UInt8.ofNat (u % 128 + 128)]) (wr.alloc (.cells #[.int .u8 ((u : Int) % 128 + 128)] 5))) :=
        src_one _ _ _ (by rw [cell_of_row _ _ 0 _ 5 (0, 0) (heap_alloc_new wr _), hb]; rfl)
      have hbel5 : w.heap.size ≤ (wr.alloc (.cells #[.int .u8 ((u : Int) % 128 + 128)] 5)).heap.size := by simp; omega
      have B5 : Hid (Below w.heap.size w (wr.alloc (.cells #[.int .u8 ((u : Int) % 128 + 128)] 5))) := B2.out.alloc hbel _
      clear hb
      go_wp2_with (at_builtin; go_must (refine wpList_app rfl _ _ 22 rfl w.heap.size _ _ _ _ rfl rfl O5.out hbel5 S5.out (HSM2.out _) ?_); intro v6 w6 o6 b6)
      go_roundw
      case rel =>
        refine ⟨u / 128, f, out ++ [UInt8.ofNat (u % 128 + 128)], by go_num, o6, B5.out.trans b6, ?_, by omega, ?_, ?_, hf2⟩
        · rw [HE.out, put_more f u h]; simp
        · have := HUF.out
          rw [Nat.pow_succ] at this
          exact (Nat.div_lt_iff_lt_mul (by omega)).2 this
        · rw [List.length_append]; simp; omega
      case measure => simp [intOf]; omega
    · have hb : (UInt8.ofNat u).toNat = u := toNat_ofNat _ (by omega)
      have O5 : Hid (Own (wr.alloc (.cells #[.int .u8 (u : Int)] 5)) w.heap.size (.slice (some ⟨g, 0, none⟩) out.length cap) out) := O2.out.alloc _
      have S5 : Hid (Src Try.prog 1 22 (.slice (some ⟨wr.heap.size, 0, none⟩) 1 1) [UInt8.ofNat u].length (bcs [UInt8.ofNat u]) (wr.alloc (.cells #[.int .u8 (u : Int)] 5))) :=
        src_one _ _ _ (by rw [cell_of_row _ _ 0 _ 5 (0, 0) (heap_alloc_new wr _), hb]; rfl)
      have hbel5 : w.heap.size ≤ (wr.alloc (.cells #[.int .u8 (u : Int)] 5)).heap.size := by simp; omega
      have B5 : Hid (Below w.heap.size w (wr.alloc (.cells #[.int .u8 (u : Int)] 5))) := B2.out.alloc hbel _
      have HE2 : Hid (put 9 v = out ++ [UInt8.ofNat u]) := by show put 9 v = out ++ [UInt8.ofNat u]; rw [HE.out, put_last f u (by omega)]
      clear hb
      go_wp2_with (first | (at_builtin; go_must (refine wpList_app rfl _ _ 22 rfl w.heap.size _ _ _ _ rfl rfl O5.out hbel5 S5.out (HSM2.out _) ?_); intro v6 w6 o6 b6) | (refine wpList_tostring rfl _ rfl w.heap.size _ (out ++ [UInt8.ofNat u]) rfl (by assumption) ?_))
      go_ret
      refine ⟨?_, B5.out.trans b6⟩
      rw [HE2.out]
      rfl
end Go.Proofs.Qxb6608833a
