/-
  Byte slices that the call itself made: append, the append of a make, a slice of it, its string.
-/
import Derived.Test.Qxb6608833aVar
import Derived.Deep.AppendSrc
import Derived.Below
namespace Go.Proofs.Qxb6608833a
open Go.RowKit

/-- bytes as cells -/
def bcs (l : List UInt8) : List Value := l.map fun b => Value.int .u8 b.toNat

theorem bcs_length (l : List UInt8) : (bcs l).length = l.length := by simp [bcs]
theorem bcs_append (l m : List UInt8) : bcs (l ++ m) = bcs l ++ bcs m := by simp [bcs]
theorem bcs_take (l : List UInt8) (n : Nat) : bcs (l.take n) = (bcs l).take n := by simp [bcs, List.map_take]
theorem bcs_drop (l : List UInt8) (n : Nat) : bcs (l.drop n) = (bcs l).drop n := by simp [bcs, List.map_drop]
theorem bcs_one (l : List UInt8) : ∀ u ∈ bcs l, u.oneCell' = true := by
  intro u hu
  obtain ⟨_, _, rfl⟩ := List.mem_map.1 hu
  rfl
theorem bcs_get (l : List UInt8) (j : Nat) (h : j < l.length) : (bcs l)[j]? = some (.int .u8 (at' l j)) := by
  simp [bcs, at', h]
theorem bcs_string (s : ByteArray) : byteCells s = bcs s.data.toList := rfl

/-- v is a slice from the start of a block from B on, its elements are l -/
def Own (w : World) (B : Nat) (v : Value) (l : List UInt8) : Prop :=
  ∃ g cap cur ty, v = .slice (some ⟨g, 0, none⟩) l.length cap ∧ B ≤ g ∧ w.heap[g]? = some (.cells cur ty (0, 0)) ∧ cur.size = cap ∧ l.length ≤ cap ∧ cap ≤ maxLen ∧ cur.toList.take l.length = bcs l

theorem Own.shape {w : World} {B : Nat} {v : Value} {l : List UInt8} (h : Own w B v l) : ∃ g cap, v = .slice (some ⟨g, 0, none⟩) l.length cap ∧ l.length ≤ cap ∧ cap ≤ 9223372036854775807 := by
  obtain ⟨g, cap, cur, ty, hv, _, _, _, h1, h2, _⟩ := h
  exact ⟨g, cap, hv, h1, h2⟩

theorem Own.below {w w' : World} {B : Nat} {v : Value} {l : List UInt8} (h : Own w B v l) (C : Nat) (hb : Below C w w') (hC : ∀ g c, v = .slice (some ⟨g, 0, none⟩) l.length c → g < C) : Own w' B v l := by
  obtain ⟨g, cap, cur, ty, hv, h1, h2, h3⟩ := h
  exact ⟨g, cap, cur, ty, hv, h1, by rw [hb.block g (hC g cap hv)]; exact h2, h3⟩

theorem Own.lt {w : World} {B : Nat} {v : Value} {l : List UInt8} (h : Own w B v l) : ∀ g n c, v = .slice (some ⟨g, 0, none⟩) n c → B ≤ g ∧ g < w.heap.size := by
  intro g n c hv
  obtain ⟨g', cap, cur, ty, hv', h1, h2, _⟩ := h
  rw [hv'] at hv
  injection hv with e1
  injection e1 with e1
  injection e1 with e1
  subst e1
  exact ⟨h1, (Array.getElem?_eq_some_iff.1 h2).1⟩

theorem Own.mono {w : World} {B B' : Nat} {v : Value} {l : List UInt8} (h : Own w B v l) (hB : B' ≤ B) : Own w B' v l := by
  obtain ⟨g, cap, cur, ty, hv, h1, h2⟩ := h
  exact ⟨g, cap, cur, ty, hv, by omega, h2⟩

theorem Own.cell {w : World} {B : Nat} {l : List UInt8} {g n c : Nat} (h : Own w B (.slice (some ⟨g, 0, none⟩) n c) l) : n = l.length ∧ ∀ j, j < l.length → w.cell? ⟨g, j, none⟩ = some (.int .u8 (at' l j)) := by
  obtain ⟨g', cap, cur, ty, hv', h1, h2, h3, h4, h5, h6⟩ := h
  injection hv' with e1 e2 e3
  injection e1 with e1
  injection e1 with e1
  subst e1
  refine ⟨e2, fun j hj => ?_⟩
  rw [cell_of_row w g j cur ty (0, 0) h2]
  have := bcs_get l j hj
  rw [← h6, List.getElem?_take, if_pos hj] at this
  simpa using this

theorem info5 : (Try.prog.info? 5).map (fun i => (i.size, i.bytes, i.zero)) = some (1, 1, some (.int .u8 0)) := by kernel_rfl

theorem info5_ex : ∃ i, Try.prog.info? 5 = some i ∧ i.size = 1 ∧ i.bytes = 1 ∧ i.zero = some (.int .u8 0) := by
  obtain ⟨i, hi, h⟩ := Option.map_eq_some_iff.1 info5
  simp at h
  exact ⟨i, hi, h.1, h.2.1, h.2.2⟩

theorem firstCells_own {w : World} {g n c : Nat} {cur : Array Value} {ty : TypeId} {fr : Nat × Nat} {l : List UInt8} (hg : w.heap[g]? = some (.cells cur ty fr)) (ht : cur.toList.take l.length = bcs l) (hn : n = l.length) :
    (Builtin.firstCells 1 n (.slice (some ⟨g, 0, none⟩) n c)).run Try.prog w = .ok (bcs l).toArray w := by
  subst hn
  refine run_firstCells_some w 1 l.length ⟨g, 0, none⟩ l.length c (bcs l) (by rw [bcs_length, Nat.mul_one]) (fun j v hv => ?_)
  have hadd : (⟨g, 0, none⟩ : Addr).add j = ⟨g, j, none⟩ := by unfold Addr.add; split <;> simp_all
  rw [hadd, cell_of_row w g j cur ty fr hg]
  rw [← ht, List.getElem?_take] at hv
  split at hv
  · simpa using hv
  · cases hv

/-- append, both arms -/
theorem app_own (w : World) (B : Nat) (v : Value) (l : List UInt8) (x : Value) (tx ty : TypeId) (news : List UInt8) (hown : Own w B v l) (hB : B ≤ w.heap.size)
    (hs : Src Try.prog 1 tx x news.length (bcs news) w) (hsmall : l.length + news.length ≤ 1099511627776) :
    ∃ v' w', (Builtin.append_ #[22, tx] ty #[v, x]).run Try.prog w = .ok v' w' ∧ Own w' B v' (l ++ news) ∧ Below B w w' := by
  obtain ⟨g, cap, cur, t, rfl, h1, h2, h3, h4, h5, h6⟩ := hown
  obtain ⟨i, hi, i1, i2, i3⟩ := info5_ex
  by_cases hroom : l.length + news.length ≤ cap
  · have hst := run_storeCells_at Try.prog g l.length t (bcs news) 0 cur w h2 (by rw [bcs_length, h3]; omega) (bcs_one news)
    simp only [Nat.add_zero, bcs_length] at hst
    refine ⟨.slice (some ⟨g, 0, none⟩) (l.length + news.length) cap, w.setRow g (cur.toList.take l.length ++ bcs news ++ cur.toList.drop (l.length + news.length)).toArray, ?_, ?_, ?_⟩
    · rcases hs.kind with ⟨e', hk⟩ | hk <;> simp [Builtin.append_, run_underlying Try.underlying22, run_underlying hk, sizeOf, typeInfo, hi, i1, hs.len, hroom, hs.cells, Addr.add_lit, hst]
    · refine ⟨g, cap, _, t, by rw [List.length_append], h1, setRow_heap w g cur _ t (0, 0) h2, ?_, by rw [List.length_append]; exact hroom, h5, ?_⟩
      · simp [bcs_length]; omega
      · rw [h6, List.length_append]
        simp only [bcs_append]
        rw [List.take_append_of_le_length (by simp [bcs_length])]
        rw [List.take_of_length_le (by simp [bcs_length])]
    · exact ⟨rfl, rfl, rfl, by simp [World.setRow], fun k hk => setRow_other w g k _ (by omega)⟩
  · have hold := firstCells_own (w := w.drew) (n := l.length) (c := cap) (l := l) h2 h6 rfl
    have hr := run_append_grow_src (P := Try.prog) w 22 tx ty 5 i (.int .u8 0) Try.underlying22 hi i3 (some ⟨g, 0, none⟩) l.length cap (bcs l) (by rw [i1]; exact hold) x news.length (bcs news) (by rw [i1]; exact hs) (by omega) (by omega) (by
      rw [i2]; exact growslice_fits (by omega) (by omega))
    have hge := grownCap_ge w (l.length + news.length) cap 5
    have hle := grownCap_le_maxLen w (l.length + news.length) cap 5 (by unfold maxLen; omega)
    refine ⟨_, _, hr, ?_, ?_⟩
    · refine ⟨w.heap.size, _, _, 5, by rw [List.length_append], hB, heap_alloc_new w.drew _, ?_, by rw [List.length_append]; exact hge, hle, ?_⟩
      · have hzc : (Value.int IntKind.u8 0).cells.size = 1 := rfl
        simp [bcs_length, size_zeroCells, hzc]; omega
      · rw [List.length_append, bcs_append]
        simp only [Array.toList_append]
        rw [List.take_append_of_le_length (by simp [bcs_length])]
        rw [List.take_of_length_le (by simp [bcs_length])]
    · exact ⟨rfl, rfl, rfl, by simp, fun k hk => heap_alloc_old w.drew _ (by show k < w.heap.size; omega)⟩

/-- the append of a make: a new block -/
theorem app_make (w : World) (B : Nat) (g cap n : Nat) (l : List UInt8) (hown : Own w B (.slice (some ⟨g, 0, none⟩) l.length cap) l) (hB : B ≤ w.heap.size) (hn : 1 ≤ n) (hsmall : cap + n ≤ 1099511627776) (ty : TypeId) :
    ∃ h c' w', (Builtin.append_ #[22, 3] ty #[.slice (some ⟨g, 0, none⟩) cap cap, .int .i64 n]).run Try.prog w = .ok (.slice (some ⟨h, 0, none⟩) (cap + n) c') w' ∧ cap + n ≤ c' ∧
      Own w' B (.slice (some ⟨h, 0, none⟩) l.length c') l ∧ Below B w w' := by
  obtain ⟨g', cap', cur, t, hv, h1, h2, h3, h4, h5, h6⟩ := hown
  injection hv with e1 e2 e3
  injection e1 with e1
  injection e1 with e1
  subst e1 e3
  obtain ⟨i, hi, i1, i2, i3⟩ := info5_ex
  have hcells : (Builtin.firstCells 1 cap (.slice (some ⟨g, 0, none⟩) cap cap)).run Try.prog w.drew = .ok cur.toList.toArray w.drew := by
    refine run_firstCells_some w.drew 1 cap ⟨g, 0, none⟩ cap cap cur.toList (by simp [h3]) (fun j v hv => ?_)
    have hadd : (⟨g, 0, none⟩ : Addr).add j = ⟨g, j, none⟩ := by unfold Addr.add; split <;> simp_all
    have h2' : w.drew.heap[g]? = some (.cells cur t (0, 0)) := h2
    rw [hadd, cell_of_row w.drew g j cur t (0, 0) h2']
    simpa using hv
  have hfit := growslice_fits (bytes := 1) (show cap < cap + n by omega) (by omega)
  have hwr : IntKind.i64.wrap (n : Int) = n := IntWalk.i64_in _ ⟨by omega, by omega⟩
  have hz1 : ¬ ((n : Int) < 0) := by omega
  have hz2 : ¬ (281474976710656 < (n : Int)) := by omega
  have hz3 : ¬ (cap + n ≤ cap) := by omega
  have hz4 : ¬ (9223372036854775807 < ((cap : Int) + (n : Int))) := by omega
  have hz5 : ¬ (281474976710656 < Builtin.nextslicecap (cap + n) cap) := by omega
  refine ⟨w.heap.size, grownCap w (cap + n) cap 5, w.drew.alloc (.cells (cur ++ Builtin.zeroCells #[.int .u8 0] n ++ Builtin.zeroCells #[.int .u8 0] (grownCap w (cap + n) cap 5 - (cap + n))) 5), ?_, grownCap_ge w _ _ _, ?_, ?_⟩
  · have hn0 : n ≠ 0 := by omega
    simp [Builtin.append_, run_underlying Try.underlying22, run_underlying Try.underlying3, sizeOf, typeInfo, zeroValue, hi, i1, i2, i3, asInt, asIntOf, hwr, hz1, hz2, hz3, hz4, hz5, hn0, Question.forced, hcells, newRow, grownCap, Value.cells]
  · have hge := grownCap_ge w (cap + n) cap 5
    have hle := grownCap_le_maxLen w (cap + n) cap 5 (by unfold maxLen; omega)
    refine ⟨w.heap.size, _, _, 5, rfl, hB, heap_alloc_new w.drew _, ?_, by omega, hle, ?_⟩
    · simp [size_zeroCells, h3]; omega
    · simp only [Array.toList_append, List.append_assoc]
      rw [List.take_append_of_le_length (by simp [h3]; omega)]
      exact h6
  · exact ⟨rfl, rfl, rfl, by simp, fun k hk => heap_alloc_old w.drew _ (by show k < w.heap.size; omega)⟩


section
variable {ops : Array Oper} {rest : List Oper} {o : Oper} {a : Act} {w : World} {Q : Exit → Act → World → Prop}

theorem wpList_run {P : Program} {w' : World} {v : Value} (hgd : o.guard = none) (hrun : (execOp a.eval o).run P w = .ok (.value v) w') (h : wpList P ops Q rest (a.put o.dst v) w') :
    wpList P ops Q (o :: rest) a w := by
  refine wpList_plain hgd fun K hK => ?_
  unfold Oper.wp
  rw [hrun]
  exact hK _ _ h

theorem wpList_app (hgd : o.guard = none) (s x : Operand) (tx : TypeId) (ho : o.op = .call { callee := .builtin .append, args := #[s, x], argTypes := #[22, tx] })
    (B : Nat) (v : Value) (l : List UInt8) (xv : Value) (news : List UInt8) (hsv : a.eval s = v) (hxv : a.eval x = xv) (hown : Own w B v l) (hB : B ≤ w.heap.size)
    (hs : Src Try.prog 1 tx xv news.length (bcs news) w) (hsmall : l.length + news.length ≤ 1099511627776)
    (h : ∀ v' w', Own w' B v' (l ++ news) → Below B w w' → wpList Try.prog ops Q rest (a.put o.dst v') w') : wpList Try.prog ops Q (o :: rest) a w := by
  obtain ⟨v', w', hr, h1, h2⟩ := app_own w B v l xv tx o.type news hown hB hs hsmall
  refine wpList_run hgd ?_ (h v' w' h1 h2)
  unfold execOp
  simp only [ho]
  simp [resolve, invoke, builtin, hsv, hxv, hr]

theorem wpList_make (hgd : o.guard = none) (s x : Operand) (ho : o.op = .call { callee := .builtin .append, args := #[s, x], argTypes := #[22, 3] })
    (B : Nat) (g cap n : Nat) (l : List UInt8) (hsv : a.eval s = .slice (some ⟨g, 0, none⟩) cap cap) (hxv : a.eval x = .int .i64 n) (hown : Own w B (.slice (some ⟨g, 0, none⟩) l.length cap) l) (hB : B ≤ w.heap.size)
    (hn : 1 ≤ n) (hsmall : cap + n ≤ 1099511627776)
    (h : ∀ g' c' w', cap + n ≤ c' → Own w' B (.slice (some ⟨g', 0, none⟩) l.length c') l → Below B w w' → wpList Try.prog ops Q rest (a.put o.dst (.slice (some ⟨g', 0, none⟩) (cap + n) c')) w') : wpList Try.prog ops Q (o :: rest) a w := by
  obtain ⟨g', c', w', hr, h0, h1, h2⟩ := app_make w B g cap n l hown hB hn hsmall o.type
  refine wpList_run hgd ?_ (h g' c' w' h0 h1 h2)
  unfold execOp
  simp only [ho]
  simp [resolve, invoke, builtin, hsv, hxv, hr]
end
end Go.Proofs.Qxb6608833a
