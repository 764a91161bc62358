/-
  An argument that is an array of 256 float32: opened, and read again in whatever world.
-/
import Derived.Test.Qxb6608816aRows
import Derived.WalkKit
import Derived.ProofKit
import Derived.OpenShut
import Derived.WalkLawsBesides
namespace Go.Proofs.Qxb6608816a
open Go.ChangeShapes Go.WideShapes Go.ChangeAt Go.RowKit

theorem cells23 : Try.prog.cellsOf 23 = 256 := by kernel_rfl
theorem cells22' : Try.prog.cellsOf 22 = 1 := by kernel_rfl

theorem mapM_same {α β : Type} {f g : α → Option β} : ∀ (l : List α), (∀ x ∈ l, f x = g x) → l.mapM f = l.mapM g
  | [], _ => rfl
  | a :: l, h => by
    simp only [List.mapM_cons]
    rw [h a (by simp), mapM_same l (fun x hx => h x (by simp [hx]))]

theorem trod_f32 {H : Type} {enc : TypeId × Value → H} {W : World} {base : Nat} {sp : Nat → Bool} {held : Bool} {m : Nat} {v : Value} {y : DataW H × List MemPlace}
    (h : DataW.trod enc Try.prog W base sp held m 22 [v] = some y) : ∃ b, v = .float .f32 b ∧ y = (.lit (.float .f32 b), []) ∧ (Lit.float .f32 b).wf = true ∧ ∃ m', m = m' + 1 := by
  cases m with
  | zero => simp [DataW.trod] at h
  | succ m' =>
    unfold DataW.trod at h
    rw [Try.underlying22] at h
    cases v <;> simp at h
    rename_i k b
    obtain ⟨⟨rfl, hw⟩, rfl⟩ := h
    exact ⟨b, rfl, rfl, hw, m', rfl⟩

theorem trod_f32_mk {H : Type} (enc : TypeId × Value → H) (W : World) (base : Nat) (sp : Nat → Bool) (held : Bool) (m : Nat) {b : Nat} (hw : (Lit.float .f32 b).wf = true) :
    DataW.trod enc Try.prog W base sp held (m + 1) 22 [.float .f32 b] = some (.lit (.float .f32 b), []) := by
  unfold DataW.trod
  rw [Try.underlying22]
  simp [hw]

theorem open_floats {H : Type} {enc : TypeId × Value → H} {W : World} {b0 base : Nat} {sp : Nat → Bool} {held : Bool} {r : Reach} {v : Value} {d : DataW H} {ps : List MemPlace}
    (hval : Value.okWide Try.prog W r b0 23 v) (hd : DataW.Trod enc Try.prog W base sp held 23 v d ps) :
    ∃ (cs : Array Value) (x : Nat → Nat), v = .agg cs ∧ cs.size = 256 ∧ (∀ k, k < 256 → cs[k]? = some (.float .f32 (x k))) ∧ ps = [] ∧
      ∀ W' base' sp', DataW.Trod enc Try.prog W' base' sp' held 23 v d [] := by
  simp only [Value.okWide, Try.underlying23] at hval
  obtain ⟨cs, rfl, hs, _⟩ := hval
  rw [cells23] at hs
  obtain ⟨fuel, hf⟩ := hd
  have hcells : (Value.agg cs).cells.toList = cs.toList := rfl
  rw [hcells] at hf
  obtain ⟨xs, m, rfl, hx, _, hl, hget⟩ := DataW.trod_array Try.underlying23 hf
  rw [cells22'] at hget
  have chunk : ∀ i, i < 256 → ((cs.toList.drop (i * 1)).take 1) = [cs[i]?.getD undef] := by
    intro i hi
    rw [Nat.mul_one]
    have hi' : i < cs.toList.length := by simp [hs, hi]
    rw [List.drop_eq_getElem_cons hi']
    simp [hs, hi]
  have el : ∀ i, i < 256 → ∃ b, cs[i]? = some (.float .f32 b) ∧ xs[i]? = some (.lit (.float .f32 b), []) ∧ (Lit.float .f32 b).wf = true ∧ ∃ m', m = m' + 1 := by
    intro i hi
    have h1 := hget i hi
    rw [chunk i hi] at h1
    have hxi : xs[i]? = some xs[i] := List.getElem?_eq_getElem (by omega)
    rw [hxi] at h1
    obtain ⟨b, e1, e2, hw, hm⟩ := trod_f32 h1
    refine ⟨b, ?_, by rw [hxi, e2], hw, hm⟩
    have hci : cs[i]? = some cs[i] := Array.getElem?_eq_getElem (by omega)
    rw [hci] at e1 ⊢
    simp at e1
    rw [e1]
  obtain ⟨x, hxx⟩ : ∃ x : Nat → Nat, ∀ i, i < 256 → cs[i]? = some (.float .f32 (x i)) ∧ xs[i]? = some (.lit (.float .f32 (x i)), []) ∧ (Lit.float .f32 (x i)).wf = true ∧ ∃ m', m = m' + 1 :=
    ⟨fun i => if hi : i < 256 then (el i hi).choose else 0, fun i hi => by simp only [hi, dif_pos]; exact (el i hi).choose_spec⟩
  have hps : ps = [] := by
    have e2 : ps = xs.flatMap (·.2) := congrArg Prod.snd hx
    rw [e2, List.flatMap_eq_nil_iff]
    intro y hy
    obtain ⟨i, hi, rfl⟩ := List.getElem_of_mem hy
    have := (hxx i (by omega)).2.1
    rw [List.getElem?_eq_getElem hi] at this
    simp at this
    rw [this]
  refine ⟨cs, x, rfl, hs, fun k hk => (hxx k hk).1, hps, fun W' base' sp' => ⟨m + 1, ?_⟩⟩
  rw [hcells]
  rw [← hps, ← hf]
  unfold DataW.trod
  rw [Try.underlying23]
  simp only
  rw [mapM_same (List.range 256) (f := fun i => DataW.trod enc Try.prog W' base' sp' held m 22 ((cs.toList.drop (i * Try.prog.cellsOf 22)).take (Try.prog.cellsOf 22))) (g := fun i => DataW.trod enc Try.prog W base sp held m 22 ((cs.toList.drop (i * Try.prog.cellsOf 22)).take (Try.prog.cellsOf 22))) ?_]
  intro i hi
  have hi' : i < 256 := by simpa using hi
  obtain ⟨e1, _, hw, m', rfl⟩ := hxx i hi'
  simp only [cells22']
  rw [chunk i hi', e1]
  show DataW.trod enc Try.prog W' base' sp' held (m' + 1) 22 [.float .f32 (x i)] = DataW.trod enc Try.prog W base sp held (m' + 1) 22 [.float .f32 (x i)]
  rw [trod_f32_mk enc W' base' sp' held m' hw, trod_f32_mk enc W base sp held m' hw]

end Go.Proofs.Qxb6608816a
