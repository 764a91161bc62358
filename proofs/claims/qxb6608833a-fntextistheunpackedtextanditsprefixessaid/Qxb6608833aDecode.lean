/-
  The walk of decodeText.
-/
import Derived.Test.Qxb6608833aUnpack
namespace Go.Proofs.Qxb6608833a
open Go.RowKit

theorem run_make0 (w : World) : (Instr.makeSlice 22 (.int .i64 0) (.int .i64 0)).run Try.prog w = .ok (.slice (some ⟨w.heap.size, 0, none⟩) 0 0) (w.alloc (.cells #[] 5)) := by kernel_rfl

theorem own_make0 (w : World) (B : Nat) (hB : B ≤ w.heap.size) : Own (w.alloc (.cells #[] 5)) B (.slice (some ⟨w.heap.size, 0, none⟩) 0 0) [] :=
  ⟨w.heap.size, 0, #[], 5, rfl, hB, heap_alloc_new w _, rfl, Nat.le_refl _, by unfold maxLen; omega, by simp [bcs]⟩

theorem Own.alloc {w : World} {B : Nat} {v : Value} {l : List UInt8} (h : Own w B v l) (o : Obj) : Own (w.alloc o) B v l :=
  h.below w.heap.size ((Below.refl _ _).alloc (Nat.le_refl _) o) (fun g c hv => (h.lt g _ c hv).2)

theorem src_one (w : World) (g : Nat) (b : UInt8) (h : w.cell? ⟨g, 0, none⟩ = some (.int .u8 b.toNat)) : Src Try.prog 1 22 (.slice (some ⟨g, 0, none⟩) 1 1) [b].length (bcs [b]) w := by
  refine Src.ofSlice w Try.underlying22 ⟨g, 0, none⟩ 1 1 (bcs [b]) rfl (fun j u hu => ?_) (bcs_one _)
  have hj : j = 0 := by
    have := (List.getElem?_eq_some_iff.1 hu).1
    simp [bcs] at this; exact this
  subst hj
  simp [bcs] at hu
  have hadd : (⟨g, 0, none⟩ : Addr).add 0 = ⟨g, 0, none⟩ := rfl
  rw [hadd, h, hu]

/-- what decodeText hands back -/
def Decoded (D : Option (List UInt8)) (B : Nat) (w : World) (e : Ending) (w' : World) : Prop :=
  Below B w w' ∧ ((∃ v res, D = some res ∧ e = .returned (.tuple #[v, .bool true]) ∧ Own w' B v res) ∨ (D = none ∧ e = .returned (.tuple #[.slice none 0 0, .bool false])))

set_option maxRecDepth 100000 in
set_option maxHeartbeats 800000 in
theorem decode_any (s : ByteArray) (want : Nat) (w : World) (hs : s.size ≤ 4194304) (hw : want ≤ 1048576) :
    Calls Try.prog 32 #[.string s, .int .i64 want] w (Decoded (dec (s.size + 1) s.data.toList want []) w.heap.size w) := by
  have hmk := fun w => run_make0 w
  go_enter Try.func32, Try.ntmps32
  go_wp2
  clear hmk
  go_loopw [6, 7] (fun d p wr => ∃ (pos : Nat) (out : List UInt8) (f : Nat), pos ≤ s.size ∧ p = .int .i64 pos ∧ Own wr w.heap.size d out ∧ Below w.heap.size w wr ∧ s.size - pos < f ∧
    dec (s.size + 1) s.data.toList want [] = dec f (s.data.toList.drop pos) want out ∧ out.length ≤ 8388608) (fun _ p _ => s.size - (intOf p).toNat)
  case atStart => exact ⟨0, [], s.size + 1, by omega, rfl, own_make0 w _ (Nat.le_refl _), (Below.refl _ _).alloc (Nat.le_refl _) _, by omega, by simp, by simp⟩
  case round =>
    obtain ⟨pos, out, f, hp, rfl, o2, b2, hf, hd, hob⟩ := hrel
    have hbel : w.heap.size ≤ wr.heap.size := b2.size
    obtain ⟨g, cap, hv, hc1, hc2⟩ := o2.shape
    subst hv
    have O2 : Hid (Own wr w.heap.size (.slice (some ⟨g, 0, none⟩) out.length cap) out) := o2
    have B2 : Hid (Below w.heap.size w wr) := b2
    have HD : Hid (dec (s.size + 1) s.data.toList want [] = dec f (s.data.toList.drop pos) want out) := hd
    clear o2 b2 hd
    obtain ⟨f, rfl⟩ : ∃ f', f = f' + 1 := ⟨f - 1, by omega⟩
    by_cases hstop : pos < s.size ∧ out.length < want
    · obtain ⟨hs1, hs2⟩ := hstop
      have hne : s.data.toList.drop pos ≠ [] := by
        intro h
        have := congrArg List.length h
        rw [List.length_drop, list_size] at this; simp at this; omega
      cases hg : getVarN 9 (s.data.toList.drop pos) with
      | none =>
        have HN : Hid (∀ n v, n ≤ 9 → ¬ IsVar (s.data.toList.drop pos) n v) := fun n v hn hv => by
          rw [getVarN_of 9 _ n v hn hv] at hg; cases hg
        have HD2 : Hid (dec (s.size + 1) s.data.toList want [] = none) := HD.out.trans (dec_noTag f _ want out hne hs2 hg)
        clear hg hne
        go_wp2_with fail
        refine (readVarint_no s pos hs (by omega) HN _).mono ?_
        rintro e w' ⟨rfl, rfl⟩
        go_wp2
        go_ret2
        exact ⟨B2.out, Or.inr ⟨HD2.out, rfl⟩⟩
      | some q =>
        obtain ⟨tag, l1⟩ := q
        obtain ⟨n1, hn1, hi1, hl1⟩ := getVarN_some 9 _ tag l1 hg
        have hp1 : pos + n1 ≤ s.size := by
          have := hi1.2.1
          rw [List.length_drop, list_size] at this; omega
        have hn11 : 1 ≤ n1 := hi1.1
        rw [List.drop_drop] at hl1
        have hll : l1.length = s.size - (pos + n1) := by rw [hl1, List.length_drop, list_size]
        have HI1 : Hid (IsVar (s.data.toList.drop pos) n1 tag) := hi1
        have HL1 : Hid (l1 = s.data.toList.drop (pos + n1)) := hl1
        have HLL : Hid (l1.length = s.size - (pos + n1)) := hll
        have htag : tag < 9223372036854775808 := by have := isVar_lt hi1 hn1; omega
        have hm1 : bits .and .u64 (tag : Int) 1 = ((tag % 2 : Nat) : Int) := by
          have := u64_and_nat tag 1 (by omega) (by omega)
          rw [nat_mask1] at this
          exact this
        by_cases ht : tag % 2 = 0
        · have ht' : ((tag % 2 : Nat) : Int) = 0 := by omega
          have hdl := dec_lit f _ want out hne hs2 hg ht
          by_cases hlong : l1.length < tag / 2
          · have HD2 : Hid (dec (s.size + 1) s.data.toList want [] = none) := HD.out.trans (by rw [hdl, if_pos hlong])
            have hlong2 : s.size - (pos + n1) < tag / 2 := by omega
            clear hg hne hi1 hl1 hll hdl hlong
            go_wp2_with fail
            refine (readVarint_ok s pos n1 tag hs hn1 HI1 _).mono ?_
            rintro e w' ⟨rfl, rfl⟩
            go_wp2
            go_ret2
            exact ⟨B2.out, Or.inr ⟨HD2.out, rfl⟩⟩
          · have HD2 : Hid (dec (s.size + 1) s.data.toList want [] = dec f (l1.drop (tag / 2)) want (out ++ l1.take (tag / 2))) := HD.out.trans (by rw [hdl, if_neg hlong])
            have hfit : pos + n1 + tag / 2 ≤ s.size := by omega
            clear hg hne hi1 hl1 hll hdl hlong
            go_wp2_with fail
            refine (readVarint_ok s pos n1 tag hs hn1 HI1 _).mono ?_
            rintro e w' ⟨rfl, rfl⟩
            go_wp2_with (at_builtin; go_must (refine wpList_app rfl _ _ 9 rfl w.heap.size _ _ _ _ rfl rfl O2.out hbel (src_str _ _) (small2 _ _ _ _ (by omega) (by omega)) ?_); intro v3 w3 o3 b3)
            go_roundw
            case rel =>
              refine ⟨pos + n1 + tag / 2, out ++ l1.take (tag / 2), f, hfit, by go_num, ?_, B2.out.trans b3, by omega, ?_, ?_⟩
              · rw [list_extract, ← HL1.out, show pos + n1 + tag / 2 - (pos + n1) = tag / 2 by omega] at o3
                exact o3
              · rw [HD2.out]
                congr 1
                rw [HL1.out, List.drop_drop]
              · rw [List.length_append, List.length_take]; have := HLL.out; omega
            case measure => simp [intOf]; omega
        · have ht' : ¬ ((tag % 2 : Nat) : Int) = 0 := by omega
          have hteq : (((tag % 2 : Nat) : Int) == 0) = false := by simpa using ht'
          cases hg2 : getVarN 9 l1 with
          | none =>
            have HN : Hid (∀ n v, n ≤ 9 → ¬ IsVar (s.data.toList.drop (pos + n1)) n v) := fun n v hn hv => by
              rw [← hl1] at hv
              rw [getVarN_of 9 _ n v hn hv] at hg2; cases hg2
            have HD2 : Hid (dec (s.size + 1) s.data.toList want [] = none) := HD.out.trans (dec_noDist f _ want out hne hs2 hg ht hg2)
            clear hg hne hi1 hl1 hll hg2
            go_wp2_with fail
            refine (readVarint_ok s pos n1 tag hs hn1 HI1 _).mono ?_
            rintro e w' ⟨rfl, rfl⟩
            go_wp2_with fail
            refine (readVarint_no s (pos + n1) hs hp1 HN _).mono ?_
            rintro e w' ⟨rfl, rfl⟩
            go_wp2
            go_ret2
            exact ⟨B2.out, Or.inr ⟨HD2.out, rfl⟩⟩
          | some q2 =>
            obtain ⟨dist, l2⟩ := q2
            obtain ⟨n2, hn2, hi2, hl2⟩ := getVarN_some 9 _ dist l2 hg2
            have hdr := dec_rep f _ want out hne hs2 hg ht hg2
            rw [hl1] at hi2
            have hp2 : pos + n1 + n2 ≤ s.size := by
              have := hi2.2.1
              rw [List.length_drop, list_size] at this; omega
            rw [hl1, List.drop_drop] at hl2
            have HI2 : Hid (IsVar (s.data.toList.drop (pos + n1)) n2 dist) := hi2
            have HL2 : Hid (l2 = s.data.toList.drop (pos + n1 + n2)) := hl2
            have hdist : dist < 9223372036854775808 := by have := isVar_lt hi2 hn2; omega
            by_cases hbad : 1048576 < tag / 2 ∨ out.length ≤ dist
            · have HD2 : Hid (dec (s.size + 1) s.data.toList want [] = none) := HD.out.trans (by rw [hdr, if_pos hbad])
              clear hg hne hi1 hl1 hll hg2 hi2 hl2 hdr
              by_cases hb1 : 1048576 < tag / 2
              · clear hbad
                go_wp2_with fail
                refine (readVarint_ok s pos n1 tag hs hn1 HI1 _).mono ?_
                rintro e w' ⟨rfl, rfl⟩
                go_wp2_with fail
                refine (readVarint_ok s (pos + n1) n2 dist hs hn2 HI2 _).mono ?_
                rintro e w' ⟨rfl, rfl⟩
                go_wp2
                go_ret2
                exact ⟨B2.out, Or.inr ⟨HD2.out, rfl⟩⟩
              · have hb2 : out.length ≤ dist := by omega
                clear hbad
                go_wp2_with fail
                refine (readVarint_ok s pos n1 tag hs hn1 HI1 _).mono ?_
                rintro e w' ⟨rfl, rfl⟩
                go_wp2_with fail
                refine (readVarint_ok s (pos + n1) n2 dist hs hn2 HI2 _).mono ?_
                rintro e w' ⟨rfl, rfl⟩
                go_wp2
                go_ret2
                exact ⟨B2.out, Or.inr ⟨HD2.out, rfl⟩⟩
            · have HD2 : Hid (dec (s.size + 1) s.data.toList want [] = dec f l2 want (rep out (dist + 1) (tag / 2 + 4))) := HD.out.trans (by rw [hdr, if_neg hbad])
              have hb1 : tag / 2 ≤ 1048576 := by omega
              have hb2 : dist < out.length := by omega
              have hq1 : decide (1048576 < (tag : Int) / 2) = false := by rw [decide_eq_false]; omega
              have hq2 : decide (out.length ≤ dist) = false := by rw [decide_eq_false]; omega
              clear hg hne hi1 hl1 hll hg2 hi2 hl2 hdr hbad
              go_wp2_with fail
              refine (readVarint_ok s pos n1 tag hs hn1 HI1 _).mono ?_
              rintro e w' ⟨rfl, rfl⟩
              go_wp2_with fail
              refine (readVarint_ok s (pos + n1) n2 dist hs hn2 HI2 _).mono ?_
              rintro e w' ⟨rfl, rfl⟩
              go_wp2
              go_loopw [6, 17] (fun d j wq => ∃ t : Nat, t ≤ tag / 2 + 4 ∧ j = .int .i64 t ∧ Own wq w.heap.size d (rep out (dist + 1) t) ∧ Below w.heap.size w wq) (fun _ j _ => tag / 2 + 4 - (intOf j).toNat)
              case atStart => exact ⟨0, by omega, rfl, O2.out, B2.out⟩
              case round =>
                obtain ⟨t, ht2, rfl, o4, b4⟩ := hrel
                have hbel4 : w.heap.size ≤ wr.heap.size := b4.size
                have hrl := rep_length out (dist + 1) t
                obtain ⟨g4, cap4, hv4, hc4, hd4⟩ := o4.shape
                subst hv4
                rw [hrl] at hc4 o4 ⊢
                have O4 : Hid (Own wr w.heap.size (.slice (some ⟨g4, 0, none⟩) (out.length + t) cap4) (rep out (dist + 1) t)) := o4
                have B4 : Hid (Below w.heap.size w wr) := b4
                have HRL : Hid ((rep out (dist + 1) t).length = out.length + t) := hrl
                clear o4 b4 hrl
                by_cases hlt : t < tag / 2 + 4
                · have hcell := O4.out.cell.2 (out.length + t - (dist + 1)) (by rw [HRL.out]; omega)
                  have O5 : Hid (Own (wr.alloc (.cells #[.int .u8 (at' (rep out (dist + 1) t) (out.length + t - (dist + 1)) : Nat)] 5)) w.heap.size (.slice (some ⟨g4, 0, none⟩) (out.length + t) cap4) (rep out (dist + 1) t)) := O4.out.alloc _
                  have S5 : Hid (Src Try.prog 1 22 (.slice (some ⟨wr.heap.size, 0, none⟩) 1 1) [(rep out (dist + 1) t).getD (out.length + t - (dist + 1)) 0].length (bcs [(rep out (dist + 1) t).getD (out.length + t - (dist + 1)) 0]) (wr.alloc (.cells #[.int .u8 (at' (rep out (dist + 1) t) (out.length + t - (dist + 1)) : Nat)] 5))) :=
                    src_one _ _ _ (by rw [cell_of_row _ _ 0 _ 5 (0, 0) (heap_alloc_new wr _)]; rfl)
                  have hbel5 : w.heap.size ≤ (wr.alloc (.cells #[.int .u8 (at' (rep out (dist + 1) t) (out.length + t - (dist + 1)) : Nat)] 5)).heap.size := by simp; omega
                  have B5 : Hid (Below w.heap.size w (wr.alloc (.cells #[.int .u8 (at' (rep out (dist + 1) t) (out.length + t - (dist + 1)) : Nat)] 5))) := B4.out.alloc hbel4 _
                  have HSM : Hid ((rep out (dist + 1) t).length + [(rep out (dist + 1) t).getD (out.length + t - (dist + 1)) 0].length ≤ 1099511627776) := by
                    show (rep out (dist + 1) t).length + 1 ≤ 1099511627776
                    rw [HRL.out]; omega
                  go_wp2_with (at_builtin; go_must (refine wpList_app rfl _ _ 22 rfl w.heap.size _ _ _ _ rfl rfl O5.out hbel5 S5.out HSM.out ?_); intro v6 w6 o6 b6)
                  go_roundw
                  case rel =>
                    have o7 : Own w6 w.heap.size v6 (rep out (dist + 1) (t + 1)) := by rw [rep_succ, HRL.out]; exact o6
                    have b7 := B5.out.trans b6
                    exact ⟨t + 1, by omega, by go_num, o7, b7⟩
                  case measure => simp [intOf]; omega
                · obtain rfl : t = tag / 2 + 4 := by omega
                  go_wp2
                  go_roundw
                  case rel =>
                    refine ⟨pos + n1 + n2, rep out (dist + 1) (tag / 2 + 4), f, hp2, by go_num, ?_, B4.out, by omega, ?_, ?_⟩
                    · exact O4.out
                    · rw [HD2.out, HL2.out]
                    · rw [HRL.out]; omega
                  case measure => simp [intOf]; omega
    · have HD2 : Hid (dec (s.size + 1) s.data.toList want [] = some out) := HD.out.trans (dec_stop _ _ _ _ (by
        by_cases h : pos < s.size
        · right; omega
        · left; rw [List.drop_eq_nil_iff]; rw [list_size]; omega))
      by_cases h : pos < s.size
      · have h2 : want ≤ out.length := by omega
        clear hstop
        go_wp2
        go_ret2
        exact ⟨B2.out, Or.inl ⟨_, _, HD2.out, rfl, O2.out⟩⟩
      · clear hstop
        go_wp2
        go_ret2
        exact ⟨B2.out, Or.inl ⟨_, _, HD2.out, rfl, O2.out⟩⟩
end Go.Proofs.Qxb6608833a
