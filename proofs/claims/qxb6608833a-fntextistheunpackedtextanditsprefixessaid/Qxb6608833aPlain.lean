/-
  Plain lists of bytes: the varint, the tokens, the unpacked text. No Go in sight.
-/
namespace Go.Proofs.Qxb6608833a

/-- the number that seven-bit groups write, the low one first -/
def vval : List UInt8 → Nat
  | [] => 0
  | b :: bs => b.toNat % 128 + 128 * vval bs

/-- byte j, 0 behind the end -/
def at' (l : List UInt8) (j : Nat) : Nat := (l.getD j 0).toNat

/-- l opens with a varint of n bytes that writes v -/
def IsVar (l : List UInt8) (n v : Nat) : Prop :=
  1 ≤ n ∧ n ≤ l.length ∧ at' l (n - 1) < 128 ∧ (∀ j, j + 1 < n → 128 ≤ at' l j) ∧ v = vval (l.take n)

/-- a varint of at most m bytes: the number, and what follows it -/
def getVarN : Nat → List UInt8 → Option (Nat × List UInt8)
  | 0, _ => none
  | _ + 1, [] => none
  | m + 1, b :: bs => if b.toNat < 128 then some (b.toNat, bs) else
    match getVarN m bs with
    | none => none
    | some (v, r) => some (b.toNat % 128 + 128 * v, r)

theorem at_zero (b : UInt8) (bs : List UInt8) : at' (b :: bs) 0 = b.toNat := rfl
theorem at_succ (b : UInt8) (bs : List UInt8) (j : Nat) : at' (b :: bs) (j + 1) = at' bs j := rfl

theorem at_lt (l : List UInt8) (j : Nat) : at' l j < 256 := (l.getD j 0).toNat_lt

theorem isVar_one {b : UInt8} {bs : List UInt8} (h : b.toNat < 128) : IsVar (b :: bs) 1 b.toNat := by
  refine ⟨Nat.le_refl _, by simp, by simpa [at_zero] using h, fun j hj => by omega, ?_⟩
  simp [vval]; omega

theorem isVar_cons {b : UInt8} {bs : List UInt8} (h : 128 ≤ b.toNat) {n v : Nat} (hv : IsVar bs n v) : IsVar (b :: bs) (n + 1) (b.toNat % 128 + 128 * v) := by
  obtain ⟨h1, h2, h3, h4, h5⟩ := hv
  refine ⟨by omega, by simp; omega, ?_, ?_, ?_⟩
  · obtain ⟨k, rfl⟩ : ∃ k, n = k + 1 := ⟨n - 1, by omega⟩
    simpa [at_succ] using h3
  · intro j hj
    cases j with
    | zero => rw [at_zero]; exact h
    | succ j => rw [at_succ]; exact h4 j (by omega)
  · simp [vval, h5]

theorem isVar_uncons {b : UInt8} {bs : List UInt8} {n v : Nat} (h : IsVar (b :: bs) n v) :
    (b.toNat < 128 ∧ n = 1 ∧ v = b.toNat) ∨ (128 ≤ b.toNat ∧ ∃ m u, n = m + 1 ∧ IsVar bs m u ∧ v = b.toNat % 128 + 128 * u) := by
  obtain ⟨h1, h2, h3, h4, h5⟩ := h
  by_cases hb : b.toNat < 128
  · left
    have hn : n = 1 := by
      rcases Nat.lt_or_ge 1 n with hn | hn
      · have := h4 0 (by omega); rw [at_zero] at this; omega
      · omega
    subst hn
    refine ⟨hb, rfl, ?_⟩
    rw [h5]; simp [vval]; omega
  · right
    obtain ⟨m, rfl⟩ : ∃ m, n = m + 1 := ⟨n - 1, by omega⟩
    have hm : 1 ≤ m := by
      rcases Nat.eq_zero_or_pos m with h0 | h0
      · subst h0; rw [at_zero] at h3; omega
      · exact h0
    refine ⟨by omega, m, vval (bs.take m), rfl, ⟨hm, by simpa using h2, ?_, ?_, rfl⟩, ?_⟩
    · obtain ⟨k, rfl⟩ : ∃ k, m = k + 1 := ⟨m - 1, by omega⟩
      simpa [at_succ] using h3
    · intro j hj
      have := h4 (j + 1) (by omega)
      rwa [at_succ] at this
    · rw [h5]; simp [vval]

theorem getVarN_some : ∀ (m : Nat) (l : List UInt8) (v : Nat) (r : List UInt8), getVarN m l = some (v, r) → ∃ n, n ≤ m ∧ IsVar l n v ∧ r = l.drop n
  | 0, l, v, r, h => by simp [getVarN] at h
  | m + 1, [], v, r, h => by simp [getVarN] at h
  | m + 1, b :: bs, v, r, h => by
    simp only [getVarN] at h
    by_cases hb : b.toNat < 128
    · rw [if_pos hb] at h
      simp at h
      obtain ⟨rfl, rfl⟩ := h
      exact ⟨1, by omega, isVar_one hb, by simp⟩
    · rw [if_neg hb] at h
      cases hg : getVarN m bs with
      | none => rw [hg] at h; cases h
      | some p =>
        obtain ⟨u, r'⟩ := p
        rw [hg] at h
        simp at h
        obtain ⟨rfl, rfl⟩ := h
        obtain ⟨n, hn, hv, hr⟩ := getVarN_some m bs u r' hg
        exact ⟨n + 1, by omega, isVar_cons (by omega) hv, by simpa using hr⟩

theorem getVarN_of : ∀ (m : Nat) (l : List UInt8) (n v : Nat), n ≤ m → IsVar l n v → getVarN m l = some (v, l.drop n)
  | 0, l, n, v, hn, h => by have := h.1; omega
  | m + 1, [], n, v, hn, h => by have := h.1; have := h.2.1; simp at this; omega
  | m + 1, b :: bs, n, v, hn, h => by
    simp only [getVarN]
    rcases isVar_uncons h with ⟨hb, rfl, rfl⟩ | ⟨hb, k, u, rfl, hv, rfl⟩
    · rw [if_pos hb]; simp
    · rw [if_neg (by omega), getVarN_of m bs k u (by omega) hv]
      simp

theorem vval_lt : ∀ l : List UInt8, vval l < 128 ^ l.length
  | [] => by simp [vval]
  | b :: bs => by
    have := vval_lt bs
    simp only [vval, List.length_cons, Nat.pow_succ]
    have := Nat.mod_lt b.toNat (show 0 < 128 by omega)
    omega

theorem isVar_lt {l : List UInt8} {n v : Nat} (h : IsVar l n v) (hn : n ≤ 9) : v < 2 ^ 63 := by
  rw [h.2.2.2.2]
  have h1 := vval_lt (l.take n)
  rw [List.length_take, Nat.min_eq_left h.2.1] at h1
  have h2 : 128 ^ n ≤ 128 ^ 9 := Nat.pow_le_pow_right (by omega) hn
  have h3 : (128 : Nat) ^ 9 = 2 ^ 63 := by decide
  omega

/-- no varint within nine bytes -/
theorem getVar_none (l : List UInt8) (h : ∀ n v, n ≤ 9 → ¬ IsVar l n v) : getVarN 9 l = none := by
  cases hg : getVarN 9 l with
  | none => rfl
  | some p =>
    obtain ⟨n, hn, hv, _⟩ := getVarN_some 9 l p.1 p.2 (by rw [hg])
    exact absurd hv (h n p.1 hn)

theorem getVarN_append : ∀ (m : Nat) (l t : List UInt8) (v : Nat) (r : List UInt8), getVarN m l = some (v, r) → getVarN m (l ++ t) = some (v, r ++ t)
  | 0, l, t, v, r, h => by simp [getVarN] at h
  | m + 1, [], t, v, r, h => by simp [getVarN] at h
  | m + 1, b :: bs, t, v, r, h => by
    simp only [getVarN, List.cons_append] at h ⊢
    by_cases hb : b.toNat < 128
    · rw [if_pos hb] at h ⊢
      simp at h ⊢
      exact ⟨h.1, by rw [h.2]⟩
    · rw [if_neg hb] at h ⊢
      cases hg : getVarN m bs with
      | none => rw [hg] at h; cases h
      | some p =>
        obtain ⟨u, r'⟩ := p
        rw [hg] at h
        rw [getVarN_append m bs t u r' hg]
        simp at h ⊢
        exact ⟨h.1, by rw [h.2]⟩

theorem getVarN_shorter {m : Nat} {l : List UInt8} {v : Nat} {r : List UInt8} (h : getVarN m l = some (v, r)) : r.length < l.length := by
  obtain ⟨n, _, hv, rfl⟩ := getVarN_some m l v r h
  have := hv.1; have := hv.2.1
  rw [List.length_drop]; omega

/-! ### a repeat, byte by byte -/
def rep : List UInt8 → Nat → Nat → List UInt8
  | out, _, 0 => out
  | out, back, n + 1 => rep (out ++ [out.getD (out.length - back) 0]) back n

theorem rep_length : ∀ (out : List UInt8) (back n : Nat), (rep out back n).length = out.length + n
  | out, back, 0 => by simp [rep]
  | out, back, n + 1 => by rw [rep, rep_length]; simp; omega

theorem rep_add : ∀ (out : List UInt8) (back n m : Nat), rep out back (n + m) = rep (rep out back n) back m
  | out, back, 0, m => by simp [rep]
  | out, back, n + 1, m => by rw [show n + 1 + m = (n + m) + 1 by omega, rep, rep, rep_add]

theorem rep_succ (out : List UInt8) (back n : Nat) : rep out back (n + 1) = rep out back n ++ [(rep out back n).getD ((rep out back n).length - back) 0] := by
  rw [rep_add]; rfl

/-- the repeat goes on from what it has: its first bytes are out -/
theorem rep_take : ∀ (out : List UInt8) (back n m : Nat), m ≤ n → (rep out back n).take (out.length + m) = rep out back m
  | out, back, n, m, h => by
    obtain ⟨k, rfl⟩ : ∃ k, n = m + k := ⟨n - m, by omega⟩
    rw [rep_add]
    have hp : ∀ (o : List UInt8) (k : Nat), (rep o back k).take o.length = o := by
      intro o k
      induction k with
      | zero => simp [rep]
      | succ k ih =>
        rw [rep_succ, List.take_append_of_le_length (by rw [rep_length]; omega)]
        exact ih
    have := hp (rep out back m) k
    rwa [rep_length] at this

/-- a whole stretch copied at once is the repeat byte by byte, so long as it lies in what is there -/
theorem rep_chunk (out : List UInt8) (back p : Nat) (hb : 1 ≤ back) (hp : ∃ c, 1 ≤ c ∧ p = c * back) (hle : p ≤ out.length) :
    ∀ k, k ≤ p → (∀ i, i + back < p → out.getD (out.length - p + i + back) 0 = out.getD (out.length - p + i) 0) →
      out ++ (out.drop (out.length - p)).take k = rep out back k := by
  intro k
  induction k with
  | zero => intro _ _; simp [rep]
  | succ k ih =>
    intro hk hper
    have ih' := ih (by omega) hper
    rw [rep_succ, ← ih']
    obtain ⟨d, hd⟩ : ∃ d, d = out.drop (out.length - p) := ⟨_, rfl⟩
    have hdl : d.length = p := by rw [hd, List.length_drop]; omega
    rw [← hd]
    have hdk : ∀ i, i < p → d.getD i 0 = out.getD (out.length - p + i) 0 := by
      intro i hi
      rw [hd, List.getD_eq_getElem?_getD, List.getElem?_drop, List.getD_eq_getElem?_getD]
    rw [List.take_succ_eq_append_getElem (by omega), ← List.append_assoc]
    congr 1
    have hlen : (out ++ d.take k).length = out.length + k := by simp; omega
    rw [hlen]
    have e1 : d[k]'(by omega) = d.getD k 0 := by rw [List.getD_eq_getElem?_getD, List.getElem?_eq_getElem (by omega)]; rfl
    rw [e1, hdk k (by omega)]
    congr 1
    rw [List.getD_eq_getElem?_getD, List.getD_eq_getElem?_getD]
    by_cases hkb : k < back
    · -- the byte lies in out
      rw [List.getElem?_append_left (by omega)]
      -- period from out.length - p + k up to out.length + k - back
      have per : ∀ m, k + m * back < p → out.getD (out.length - p + k + m * back) 0 = out.getD (out.length - p + k) 0 := by
        intro m
        induction m with
        | zero => intro _; simp
        | succ m im =>
          intro hm
          rw [Nat.add_mul, Nat.one_mul] at hm
          have h1 := im (by omega)
          have h2 := hper (k + m * back) (by omega)
          rw [Nat.add_mul, Nat.one_mul]
          rw [← h1]
          rw [show out.length - p + k + (m * back + back) = out.length - p + (k + m * back) + back by omega, show out.length - p + k + m * back = out.length - p + (k + m * back) by omega]
          exact h2
      obtain ⟨c, hc1, hc2⟩ := hp
      have hcc : (c - 1) * back = p - back := by
        obtain ⟨e, rfl⟩ : ∃ e, c = e + 1 := ⟨c - 1, by omega⟩
        rw [Nat.add_mul, Nat.one_mul] at hc2
        rw [Nat.add_sub_cancel]; omega
      have hbp : back ≤ p := by
        rw [hc2]; exact Nat.le_mul_of_pos_left _ (by omega)
      clear e1 hc2
      have h3 := per (c - 1) (by rw [hcc]; omega)
      rw [hcc, show out.length - p + k + (p - back) = out.length + k - back by omega] at h3
      rw [List.getD_eq_getElem?_getD, List.getD_eq_getElem?_getD] at h3
      exact h3.symm
    · -- the byte lies among those just copied
      rw [List.getElem?_append_right (by omega)]
      have h4 : (d.take k)[out.length + k - back - out.length]? = d[k - back]? := by
        rw [List.getElem?_take, if_pos (by omega)]; congr 1; omega
      rw [h4]
      have h5 := hdk (k - back) (by omega)
      rw [List.getD_eq_getElem?_getD, List.getD_eq_getElem?_getD] at h5
      rw [h5]
      have h6 := hper (k - back) (by omega)
      rw [List.getD_eq_getElem?_getD, List.getD_eq_getElem?_getD] at h6
      rw [← h6]
      congr 2; omega


theorem rep_period (o : List UInt8) (b : Nat) (hb : 1 ≤ b) (hbo : b ≤ o.length) : ∀ t j, o.length ≤ j → j < o.length + t → (rep o b t).getD j 0 = (rep o b t).getD (j - b) 0
  | 0, j, h1, h2 => by omega
  | t + 1, j, h1, h2 => by
    rw [rep_succ]
    have hl := rep_length o b t
    have left : ∀ i, i < o.length + t → (rep o b t ++ [(rep o b t).getD ((rep o b t).length - b) 0]).getD i 0 = (rep o b t).getD i 0 := by
      intro i hi
      rw [List.getD_eq_getElem?_getD, List.getElem?_append_left (by omega), ← List.getD_eq_getElem?_getD]
    rw [left (j - b) (by omega)]
    by_cases e : j = o.length + t
    · rw [List.getD_eq_getElem?_getD, List.getElem?_append_right (by omega)]
      have e0 : j - (rep o b t).length = 0 := by omega
      rw [e0, hl, e]
      rfl
    · rw [left j (by omega)]
      exact rep_period o b hb hbo t j h1 (by omega)

/-- one round of the doubling copy -/
theorem rep_round (o : List UInt8) (b t k : Nat) (hb : 1 ≤ b) (hbo : b ≤ o.length) (hc : ∃ c, 1 ≤ c ∧ b + t = c * b) (hk : k ≤ b + t) :
    rep o b t ++ ((rep o b t).drop (o.length - b)).take k = rep o b (t + k) := by
  have hl := rep_length o b t
  rw [rep_add]
  have h := rep_chunk (rep o b t) b (b + t) hb hc (by omega) k hk
  rw [show (rep o b t).length - (b + t) = o.length - b by omega] at h
  refine h fun i hi => ?_
  have := rep_period o b hb hbo t (o.length - b + i + b) (by omega) (by omega)
  rw [this]
  congr 1; omega

/-! ### the tokens -/
def dec : Nat → List UInt8 → Nat → List UInt8 → Option (List UInt8)
  | 0, _, _, out => some out
  | f + 1, l, want, out =>
    if l = [] ∨ want ≤ out.length then some out else
    match getVarN 9 l with
    | none => none
    | some (tag, l1) =>
      if tag % 2 = 0 then
        if l1.length < tag / 2 then none else dec f (l1.drop (tag / 2)) want (out ++ l1.take (tag / 2))
      else
        match getVarN 9 l1 with
        | none => none
        | some (dist, l2) =>
          if 1048576 < tag / 2 ∨ out.length ≤ dist then none else dec f l2 want (rep out (dist + 1) (tag / 2 + 4))

theorem dec_stop (f : Nat) (l : List UInt8) (want : Nat) (out : List UInt8) (h : l = [] ∨ want ≤ out.length) : dec f l want out = some out := by
  cases f with
  | zero => rfl
  | succ f => simp only [dec]; rw [if_pos h]

theorem dec_noTag (f : Nat) (l : List UInt8) (want : Nat) (out : List UInt8) (h0 : l ≠ []) (h1 : out.length < want) (hg : getVarN 9 l = none) : dec (f + 1) l want out = none := by
  simp only [dec]; rw [if_neg (by intro h; rcases h with h | h; exact h0 h; omega), hg]

theorem dec_lit (f : Nat) (l : List UInt8) (want : Nat) (out : List UInt8) (h0 : l ≠ []) (h1 : out.length < want) {tag : Nat} {l1 : List UInt8} (hg : getVarN 9 l = some (tag, l1)) (ht : tag % 2 = 0) :
    dec (f + 1) l want out = if l1.length < tag / 2 then none else dec f (l1.drop (tag / 2)) want (out ++ l1.take (tag / 2)) := by
  simp only [dec]; rw [if_neg (by intro h; rcases h with h | h; exact h0 h; omega), hg]; simp only; rw [if_pos ht]

theorem dec_noDist (f : Nat) (l : List UInt8) (want : Nat) (out : List UInt8) (h0 : l ≠ []) (h1 : out.length < want) {tag : Nat} {l1 : List UInt8} (hg : getVarN 9 l = some (tag, l1)) (ht : tag % 2 ≠ 0) (hg1 : getVarN 9 l1 = none) :
    dec (f + 1) l want out = none := by
  simp only [dec]; rw [if_neg (by intro h; rcases h with h | h; exact h0 h; omega), hg]; simp only; rw [if_neg ht, hg1]

theorem dec_rep (f : Nat) (l : List UInt8) (want : Nat) (out : List UInt8) (h0 : l ≠ []) (h1 : out.length < want) {tag dist : Nat} {l1 l2 : List UInt8} (hg : getVarN 9 l = some (tag, l1)) (ht : tag % 2 ≠ 0) (hg1 : getVarN 9 l1 = some (dist, l2)) :
    dec (f + 1) l want out = if 1048576 < tag / 2 ∨ out.length ≤ dist then none else dec f l2 want (rep out (dist + 1) (tag / 2 + 4)) := by
  simp only [dec]; rw [if_neg (by intro h; rcases h with h | h; exact h0 h; omega), hg]; simp only; rw [if_neg ht, hg1]

/-- a step of a decoding that ends well, told once for all that is proved by going along it -/
theorem dec_cases {f : Nat} {l : List UInt8} {want : Nat} {out res : List UInt8} (h : dec (f + 1) l want out = some res) :
    ((l = [] ∨ want ≤ out.length) ∧ res = out) ∨
    (l ≠ [] ∧ out.length < want ∧ ∃ tag l1, getVarN 9 l = some (tag, l1) ∧
      ((tag % 2 = 0 ∧ tag / 2 ≤ l1.length ∧ dec f (l1.drop (tag / 2)) want (out ++ l1.take (tag / 2)) = some res) ∨
       (tag % 2 ≠ 0 ∧ ∃ dist l2, getVarN 9 l1 = some (dist, l2) ∧ tag / 2 ≤ 1048576 ∧ dist < out.length ∧ dec f l2 want (rep out (dist + 1) (tag / 2 + 4)) = some res))) := by
  by_cases hs : l = [] ∨ want ≤ out.length
  · left
    rw [dec_stop _ _ _ _ hs] at h
    exact ⟨hs, (Option.some.inj h).symm⟩
  · right
    have h0 : l ≠ [] := fun e => hs (Or.inl e)
    have h1 : out.length < want := by rcases Nat.lt_or_ge out.length want with e | e; exact e; exact absurd (Or.inr e) hs
    refine ⟨h0, h1, ?_⟩
    cases hg : getVarN 9 l with
    | none => rw [dec_noTag f l want out h0 h1 hg] at h; cases h
    | some p =>
      obtain ⟨tag, l1⟩ := p
      refine ⟨tag, l1, rfl, ?_⟩
      by_cases ht : tag % 2 = 0
      · left
        rw [dec_lit f l want out h0 h1 hg ht] at h
        by_cases hl : l1.length < tag / 2
        · rw [if_pos hl] at h; cases h
        · rw [if_neg hl] at h; exact ⟨ht, by omega, h⟩
      · right
        refine ⟨ht, ?_⟩
        cases hg1 : getVarN 9 l1 with
        | none => rw [dec_noDist f l want out h0 h1 hg ht hg1] at h; cases h
        | some p1 =>
          obtain ⟨dist, l2⟩ := p1
          rw [dec_rep f l want out h0 h1 hg ht hg1] at h
          by_cases hl : 1048576 < tag / 2 ∨ out.length ≤ dist
          · rw [if_pos hl] at h; cases h
          · rw [if_neg hl] at h
            refine ⟨dist, l2, rfl, ?_, ?_, h⟩
            · rcases Nat.lt_or_ge 1048576 (tag / 2) with e | e; exact absurd (Or.inl e) hl; exact e
            · rcases Nat.lt_or_ge dist out.length with e | e; exact e; exact absurd (Or.inr e) hl

/-- more fuel than bytes is enough -/
theorem dec_fuel : ∀ (f g : Nat) (l : List UInt8) (want : Nat) (out res : List UInt8), l.length < f → l.length < g → dec f l want out = some res → dec g l want out = some res
  | 0, g, l, want, out, res, hf, hg, h => by omega
  | f + 1, 0, l, want, out, res, hf, hg, h => by omega
  | f + 1, g + 1, l, want, out, res, hf, hg, h => by
    rcases dec_cases h with ⟨hs, rfl⟩ | ⟨h0, h1, tag, l1, hv, ⟨ht, hl, h2⟩ | ⟨ht, dist, l2, hv2, h3, h4, h2⟩⟩
    · exact dec_stop _ _ _ _ hs
    · have hsh := getVarN_shorter hv
      rw [dec_lit g l want out h0 h1 hv ht, if_neg (by omega)]
      exact dec_fuel f g _ want _ res (by rw [List.length_drop]; omega) (by rw [List.length_drop]; omega) h2
    · have hsh := getVarN_shorter hv
      have hsh2 := getVarN_shorter hv2
      rw [dec_rep g l want out h0 h1 hv ht hv2, if_neg (by omega)]
      exact dec_fuel f g _ want _ res (by omega) (by omega) h2

/-- what is decoded goes on from out -/
theorem dec_starts : ∀ (f : Nat) (l : List UInt8) (want : Nat) (out res : List UInt8), dec f l want out = some res → ∃ t, res = out ++ t
  | 0, l, want, out, res, h => by simp only [dec] at h; exact ⟨[], by simpa using (Option.some.inj h).symm⟩
  | f + 1, l, want, out, res, h => by
    rcases dec_cases h with ⟨hs, rfl⟩ | ⟨h0, h1, tag, l1, hv, ⟨ht, hl, h2⟩ | ⟨ht, dist, l2, hv2, h3, h4, h2⟩⟩
    · exact ⟨[], by simp⟩
    · obtain ⟨t, rfl⟩ := dec_starts f _ want _ res h2
      exact ⟨_, List.append_assoc _ _ _⟩
    · obtain ⟨t, rfl⟩ := dec_starts f _ want _ res h2
      have hp := rep_take out (dist + 1) (tag / 2 + 4) 0 (by omega)
      rw [Nat.add_zero] at hp
      have : rep out (dist + 1) 0 = out := rfl
      rw [this] at hp
      refine ⟨(rep out (dist + 1) (tag / 2 + 4)).drop out.length ++ t, ?_⟩
      rw [← List.append_assoc]
      congr 1
      have h5 := List.take_append_drop out.length (rep out (dist + 1) (tag / 2 + 4))
      rw [hp] at h5
      exact h5.symm

/-- a tail behind tokens that are not all needed is not read -/
theorem dec_tail : ∀ (f g : Nat) (l tail : List UInt8) (want : Nat) (out res : List UInt8), l.length < f → (l ++ tail).length < g → dec f l want out = some res → want ≤ res.length → dec g (l ++ tail) want out = some res
  | 0, g, l, tail, want, out, res, hf, hg, h, hw => by omega
  | f + 1, 0, l, tail, want, out, res, hf, hg, h, hw => by omega
  | f + 1, g + 1, l, tail, want, out, res, hf, hg, h, hw => by
    rw [List.length_append] at hg
    rcases dec_cases h with ⟨hs, rfl⟩ | ⟨h0, h1, tag, l1, hv, ⟨ht, hl, h2⟩ | ⟨ht, dist, l2, hv2, h3, h4, h2⟩⟩
    · exact dec_stop _ _ _ _ (Or.inr hw)
    · have hsh := getVarN_shorter hv
      have hne : l ++ tail ≠ [] := by simp [h0]
      rw [dec_lit g (l ++ tail) want out hne h1 (getVarN_append 9 l tail tag l1 hv) ht, if_neg (by rw [List.length_append]; omega)]
      rw [List.drop_append_of_le_length hl, List.take_append_of_le_length hl]
      exact dec_tail f g _ tail want _ res (by rw [List.length_drop]; omega) (by rw [List.length_append, List.length_drop]; omega) h2 hw
    · have hsh := getVarN_shorter hv
      have hsh2 := getVarN_shorter hv2
      have hne : l ++ tail ≠ [] := by simp [h0]
      rw [dec_rep g (l ++ tail) want out hne h1 (getVarN_append 9 l tail tag l1 hv) ht (getVarN_append 9 l1 tail dist l2 hv2), if_neg (by omega)]
      exact dec_tail f g _ tail want _ res (by omega) (by rw [List.length_append]; omega) h2 hw

/-- the same tokens, fewer bytes wanted -/
theorem dec_less : ∀ (f : Nat) (l : List UInt8) (want k : Nat) (out res : List UInt8), l.length < f → k ≤ want → dec f l want out = some res → ∃ res', dec f l k out = some res' ∧ res'.take k = res.take k
  | 0, l, want, k, out, res, hf, hk, h => by omega
  | f + 1, l, want, k, out, res, hf, hk, h => by
    by_cases hs : k ≤ out.length
    · refine ⟨out, dec_stop _ _ _ _ (Or.inr hs), ?_⟩
      obtain ⟨t, rfl⟩ := dec_starts _ _ _ _ _ h
      rw [List.take_append_of_le_length hs]
    · rcases dec_cases h with ⟨hs', rfl⟩ | ⟨h0, h1, tag, l1, hv, ⟨ht, hl, h2⟩ | ⟨ht, dist, l2, hv2, h3, h4, h2⟩⟩
      · rcases hs' with rfl | hs'
        · exact ⟨_, dec_stop _ _ _ _ (Or.inl rfl), rfl⟩
        · omega
      · have hsh := getVarN_shorter hv
        rw [dec_lit f l k out h0 (by omega) hv ht, if_neg (by omega)]
        exact dec_less f _ want k _ res (by rw [List.length_drop]; omega) hk h2
      · have hsh := getVarN_shorter hv
        have hsh2 := getVarN_shorter hv2
        rw [dec_rep f l k out h0 (by omega) hv ht hv2, if_neg (by omega)]
        exact dec_less f _ want k _ res (by omega) hk h2

/-! ### a varint written -/
def put : Nat → Nat → List UInt8
  | 0, _ => []
  | f + 1, v => if v < 128 then [UInt8.ofNat v] else UInt8.ofNat (v % 128 + 128) :: put f (v / 128)

theorem toNat_ofNat (n : Nat) (h : n < 256) : (UInt8.ofNat n).toNat = n := by
  simp; omega

theorem getVar_put : ∀ (f v : Nat) (r : List UInt8), 1 ≤ f → v < 128 ^ f → getVarN f (put f v ++ r) = some (v, r)
  | 0, v, r, h0, h => by omega
  | f + 1, v, r, _, h => by
    simp only [put]
    by_cases hv : v < 128
    · rw [if_pos hv]
      simp only [List.cons_append, List.nil_append, getVarN]
      rw [toNat_ofNat v (by omega), if_pos hv]
    · rw [if_neg hv]
      simp only [List.cons_append, getVarN]
      have hm := Nat.mod_lt v (show 0 < 128 by omega)
      rw [toNat_ofNat _ (by omega), if_neg (by omega)]
      have hd : v / 128 < 128 ^ f := by
        rw [Nat.pow_succ] at h
        exact (Nat.div_lt_iff_lt_mul (by omega)).2 h
      have hf : 1 ≤ f := by
        rcases Nat.eq_zero_or_pos f with e | e
        · subst e; simp at h; omega
        · exact e
      rw [getVar_put f (v / 128) r hf hd]
      simp only
      have := Nat.div_add_mod v 128
      congr 2
      omega

end Go.Proofs.Qxb6608833a
