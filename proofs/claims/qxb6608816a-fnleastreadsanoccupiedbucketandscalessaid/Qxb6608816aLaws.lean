/-
  The walk's laws for whole arrays that stay abstract: build of a struct of one array, index into an array value, a new zero array.
-/
import Derived.Test.Qxb6608816aRows
import Derived.WalkKit
namespace Go.Proofs.Qxb6608816a

section
variable {P : Program} {ops : Array Oper} {rest : List Oper} {o : Oper} {a : Act} {w w' : World} {Q : Exit → Act → World → Prop}

theorem wpList_op {v : Value} (hgd : o.guard = none) (hrun : (execOp a.eval o).run P w = .ok (.value v) w') (h : wpList P ops Q rest (a.put o.dst v) w') :
    wpList P ops Q (o :: rest) a w := by
  refine wpList_plain hgd fun K hK => ?_
  unfold Oper.wp
  rw [hrun]
  exact hK _ _ h
end

/-! ### build of a struct whose one field is the whole array -/

theorem set_fold (xs : List Value) : ∀ (k : Nat) (cs : Array Value), k + xs.length ≤ cs.size →
    ((xs.zipIdx k).foldl (fun (cs : Array Value) (p : Value × Nat) => cs.setIfInBounds (0 + p.2) p.1) cs).toList = cs.toList.take k ++ xs ++ cs.toList.drop (k + xs.length) := by
  induction xs with
  | nil => intro k cs _; simp
  | cons x xs ih =>
    intro k cs h
    simp only [List.zipIdx_cons, List.foldl_cons, List.length_cons] at h ⊢
    rw [ih (k + 1) _ (by simp; omega)]
    simp only [Nat.zero_add, Array.toList_setIfInBounds]
    rw [List.take_add_one, List.getElem?_set_self (by simp; omega), List.take_set_of_le (Nat.le_refl k), List.drop_set_of_lt (by omega)]
    simp [show k + 1 + xs.length = k + (xs.length + 1) by omega]

theorem fill_one (z cs : Array Value) (h : cs.size = 256) (hz : z.size = 256) : Instr.fill (#[((0 : Nat), (256 : Nat))][·]?) z [(0, .agg cs)] = some cs := by
  have hs := set_fold cs.toList 0 z (by simp [h, hz])
  have e : (Value.agg cs).cells = cs := rfl
  unfold Instr.fill
  simp only [List.getElem?_toArray, List.getElem?_cons_zero, e]
  rw [if_neg (by simp [h, hz])]
  unfold Instr.fill
  congr 1
  apply Array.toList_inj.1
  rw [← Array.foldl_toList, Array.toList_zipIdx]
  rw [hs]
  simp [hz, h]

/-- 256 zeros -/
def zeros (v : Value) : Array Value := Array.replicate 256 v
theorem built31_eq (cs : Array Value) : Try.prog.built 31 [(0, .agg cs)] = Instr.fill (#[((0 : Nat), (256 : Nat))][·]?) (zeros (.float .f32 0)) [(0, .agg cs)] := by kernel_rfl
theorem built31 (cs : Array Value) (h : cs.size = 256) : Try.prog.built 31 [(0, .agg cs)] = some cs := by
  rw [built31_eq, fill_one _ _ h (by simp [zeros])]
theorem run_build31 (cs : Array Value) (h : cs.size = 256) (w : World) : (Instr.build 31 #[(0, .agg cs)]).run Try.prog w = .ok (.agg cs) w :=
  run_build w 31 _ cs (built31 cs h)

/-! ### index into an array value -/

theorem cells22 : Try.prog.cellsOf 22 = 1 := by kernel_rfl
theorem info22 : (Try.prog.info? 22).map (·.size) = some 1 := by kernel_rfl
theorem run_index23 (cs : Array Value) (k : Nat) (v : Value) (hk : k < 256) (h : cs[k]? = some v) (w : World) : (Instr.index 23 (.agg cs) (.int .i64 k)).run Try.prog w = .ok v w := by
  obtain ⟨i, hi, hs⟩ := Option.map_eq_some_iff.1 info22
  have hp : ∀ w, (part 22 cs k).run Try.prog w = .ok v w := fun w => by simp [part, isAgg, run_underlying Try.underlying22, h]
  simp [Instr.index, asIntOf, run_underlying Try.underlying23, sizeOf, typeInfo, hi, hs, hp]
  intro h; omega

/-! ### a new zero array -/

theorem zero23 (w : World) : (zeroValue 23).run Try.prog w = .ok (.agg (zeros (.float .f32 0))) w := by kernel_rfl
theorem zero26 (w : World) : (zeroValue 26).run Try.prog w = .ok (.agg (zeros (.int .i64 0))) w := by kernel_rfl
theorem run_alloc23 (w : World) : (Instr.alloc 23 true (.tuple #[])).run Try.prog w = .ok (.pointer (some ⟨w.heap.size, 0, none⟩)) (w.alloc (.cells (zeros (.float .f32 0)) 23)) := by
  simp [Instr.alloc, zero23, newVar, newRow, Value.cells, go_sem]
theorem run_alloc26 (w : World) : (Instr.alloc 26 true (.tuple #[])).run Try.prog w = .ok (.pointer (some ⟨w.heap.size, 0, none⟩)) (w.alloc (.cells (zeros (.int .i64 0)) 26)) := by
  simp [Instr.alloc, zero26, newVar, newRow, Value.cells, go_sem]

section
variable {ops : Array Oper} {rest : List Oper} {o : Oper} {a : Act} {w : World} {Q : Exit → Act → World → Prop}
theorem wpList_build31 (hgd : o.guard = none) (x : Operand) (ho : o.op = .build 31 #[(0, x)]) (cs : Array Value) (hx : a.eval x = .agg cs) (h256 : cs.size = 256)
    (h : wpList Try.prog ops Q rest (a.put o.dst (.agg cs)) w) : wpList Try.prog ops Q (o :: rest) a w := by
  refine wpList_op hgd ?_ h
  unfold execOp
  simp [ho, hx, run_build31 cs h256]
theorem wpList_index23 (hgd : o.guard = none) (x y : Operand) (ho : o.op = .index 23 x y) (cs : Array Value) (hx : a.eval x = .agg cs) (k : Nat) (hy : a.eval y = .int .i64 k) (hk : k < 256) (v : Value) (hv : cs[k]? = some v)
    (h : wpList Try.prog ops Q rest (a.put o.dst v) w) : wpList Try.prog ops Q (o :: rest) a w := by
  refine wpList_op hgd ?_ h
  unfold execOp
  simp [ho, hx, hy, run_index23 cs k v hk hv]
theorem wpList_alloc23 (hgd : o.guard = none) (ho : o.op = .alloc 23)
    (h : wpList Try.prog ops Q rest (a.put o.dst (.pointer (some ⟨w.heap.size, 0, none⟩))) (w.alloc (.cells (zeros (.float .f32 0)) 23))) : wpList Try.prog ops Q (o :: rest) a w := by
  refine wpList_op hgd ?_ h
  unfold execOp
  simp [ho, run_alloc23]
theorem wpList_alloc26 (hgd : o.guard = none) (ho : o.op = .alloc 26)
    (h : wpList Try.prog ops Q rest (a.put o.dst (.pointer (some ⟨w.heap.size, 0, none⟩))) (w.alloc (.cells (zeros (.int .i64 0)) 26))) : wpList Try.prog ops Q (o :: rest) a w := by
  refine wpList_op hgd ?_ h
  unfold execOp
  simp [ho, run_alloc26]
end
end Go.Proofs.Qxb6608816a
