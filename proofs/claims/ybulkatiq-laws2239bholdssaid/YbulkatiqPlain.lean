/-
  The plain law: classes that are put together keep what the relation holds for.
-/
import Derived.Test.YbulkatiqCombF
set_option linter.unusedVariables false
set_option linter.unusedSimpArgs false
namespace Go.Proofs.Ybulkatiq

/-! ### the sort is stable -/
def Stab (cmp : Nat → Nat → Int) (d : List Nat) (m : Nat) : Prop := ∀ p q, p < q → q < m → d.getD p 0 < d.getD q 0 ∨ cmp (d.getD p 0) (d.getD q 0) < 0

structure DI (cmp : Nat → Nat → Int) (d : List Nat) (m j : Nat) : Prop where
  pair : ∀ p q, p < q → q < m → p ≠ j → q ≠ j → d.getD p 0 < d.getD q 0 ∨ cmp (d.getD p 0) (d.getD q 0) < 0
  lo : ∀ p, p < j → d.getD p 0 < d.getD j 0
  hi : ∀ q, j < q → q < m → cmp (d.getD j 0) (d.getD q 0) < 0

theorem DI.stop {cmp : Nat → Nat → Int} {d : List Nat} {m j : Nat} (h : DI cmp d m j) : Stab cmp d m := fun p q hpq hq => by
  by_cases e1 : p = j
  · subst e1
    exact .inr (h.hi q hpq hq)
  by_cases e2 : q = j
  · subst e2
    exact .inl (h.lo p hpq)
  · exact h.pair p q hpq hq e1 e2

/-- Two neighbours change places. -/
def swp (d : List Nat) (j : Nat) : List Nat := (d.set (j + 1) (d.getD j 0)).set j (d.getD (j + 1) 0)
theorem swp_at {d : List Nat} {j : Nat} (h : j + 1 < d.length) (p : Nat) : (swp d j).getD p 0 = if p = j then d.getD (j + 1) 0 else if p = j + 1 then d.getD j 0 else d.getD p 0 := by
  unfold swp
  by_cases e : p = j
  · subst e
    rw [if_pos rfl, getD_set_self (by simp; omega)]
  · rw [if_neg e, getD_set_ne (fun e' => e e'.symm)]
    by_cases e2 : p = j + 1
    · subst e2
      rw [if_pos rfl, getD_set_self h]
    · rw [if_neg e2, getD_set_ne (fun e' => e2 e'.symm)]

theorem DI.move {cmp : Nat → Nat → Int} {d : List Nat} {m j : Nat} (h : DI cmp d m (j + 1)) (hl : j + 1 < d.length) (hm : j + 1 < m) (hc : cmp (d.getD (j + 1) 0) (d.getD j 0) < 0) : DI cmp (swp d j) m j := by
  have at_ := swp_at hl
  refine ⟨fun p q hpq hq hp1 hq1 => ?_, fun p hp => ?_, fun q hq hqm => ?_⟩
  · rw [at_ p, at_ q, if_neg hp1, if_neg hq1]
    by_cases e1 : p = j + 1
    · rw [if_pos e1, if_neg (by omega)]
      exact h.pair j q (by omega) hq (by omega) (by omega)
    · rw [if_neg e1]
      by_cases e2 : q = j + 1
      · rw [if_pos e2]
        exact h.pair p j (by omega) (by omega) (by omega) (by omega)
      · rw [if_neg e2]
        exact h.pair p q hpq hq e1 e2
  · rw [at_ p, at_ j, if_neg (by omega), if_neg (by omega), if_pos rfl]
    exact h.lo p (by omega)
  · rw [at_ j, at_ q, if_pos rfl, if_neg (show ¬ q = j by omega)]
    by_cases e : q = j + 1
    · rw [if_pos e]
      exact hc
    · rw [if_neg e]
      exact h.hi q (by omega) hqm

theorem down_eq (cmp : Nat → Nat → Int) (d : List Nat) (j : Nat) : down cmp d (j + 1) = if cmp (d.getD (j + 1) 0) (d.getD j 0) < 0 then down cmp (swp d j) j else d := rfl
theorem swp_len (d : List Nat) (j : Nat) : (swp d j).length = d.length := by simp [swp]

theorem down_st {cmp : Nat → Nat → Int} {m : Nat} : ∀ (j : Nat) (d : List Nat), j < m → m ≤ d.length → DI cmp d m j → Stab cmp (down cmp d j) m
  | 0, d, _, _, h => h.stop
  | j + 1, d, hj, hl, h => by
    rw [down_eq]
    split
    · rename_i hc
      exact down_st j (swp d j) (by omega) (by rw [swp_len]; exact hl) (h.move (by omega) hj hc)
    · exact h.stop

theorem down_above {cmp : Nat → Nat → Int} : ∀ (j : Nat) (d : List Nat), j < d.length → ∀ p, j < p → (down cmp d j).getD p 0 = d.getD p 0
  | 0, d, _, p, _ => rfl
  | j + 1, d, hl, p, hp => by
    rw [down_eq]
    split
    · rw [down_above j (swp d j) (by rw [swp_len]; omega) p (by omega), swp_at hl, if_neg (by omega), if_neg (by omega)]
    · rfl

theorem down_bound {cmp : Nat → Nat → Int} {B : Nat} : ∀ (j : Nat) (d : List Nat), j < d.length → (∀ p, p ≤ j → d.getD p 0 < B) → ∀ p, p ≤ j → (down cmp d j).getD p 0 < B
  | 0, d, _, h, p, hp => h p hp
  | j + 1, d, hl, h, p, hp => by
    rw [down_eq]
    split
    · have hs : ∀ p, p ≤ j + 1 → (swp d j).getD p 0 < B := fun p hp => by
        rw [swp_at hl]
        split
        · exact h _ (Nat.le_refl _)
        · split
          · exact h _ (by omega)
          · exact h p hp
      rcases Nat.lt_or_ge j p with h1 | h1
      · rw [down_above j _ (by rw [swp_len]; omega) p h1]
        exact hs p hp
      · exact down_bound j _ (by rw [swp_len]; omega) (fun p hp => hs p (by omega)) p h1
    · exact h p hp

theorem ins_st (cmp : Nat → Nat → Int) (n : Nat) : ∀ i, i ≤ n → Stab cmp (insTo cmp (upTo n n) i) i ∧ (∀ p, p < i → (insTo cmp (upTo n n) i).getD p 0 < i) ∧ (∀ p, i ≤ p → p < n → (insTo cmp (upTo n n) i).getD p 0 = p) ∧ (insTo cmp (upTo n n) i).length = n
  | 0, _ => ⟨fun p q _ h => by omega, fun p h => by omega, fun p _ h => by
      show (upTo n n).getD p 0 = p
      rw [List.getD_eq_getElem?_getD, upTo_get n n p h (Nat.le_refl _)]
      rfl, upTo_len n n⟩
  | i + 1, hi => by
    obtain ⟨h1, h2, h3, h4⟩ := ins_st cmp n i (by omega)
    have hii := h3 i (Nat.le_refl _) (by omega)
    have e : insTo cmp (upTo n n) (i + 1) = down cmp (insTo cmp (upTo n n) i) i := rfl
    rw [e]
    generalize insTo cmp (upTo n n) i = d at *
    refine ⟨down_st i d (by omega) (by omega) ⟨fun p q hpq hq hp1 hq1 => h1 p q hpq (by omega), fun p hp => by rw [hii]; exact h2 p hp, fun q hq hq2 => by omega⟩, fun p hp => ?_, fun p hp hpn => ?_, ?_⟩
    · exact down_bound i d (by omega) (fun p hp => by
        rcases Nat.lt_or_ge p i with h | h
        · have := h2 p h; omega
        · rw [show p = i by omega, hii]; omega) p (by omega)
    · rw [down_above i d (by omega) p (by omega)]
      exact h3 p (by omega) hpn
    · rw [(down_perm cmp i d (by omega)).length_eq]
      exact h4

/-! ### things of one number are alike -/
section
variable {cmp : Nat → Nat → Int} {n : Nat} {E : Nat → Nat → Prop}

theorem first_ok {ord : List Nat} (hr : ∀ a, E a a) (ht : ∀ a b c, E a b → E b c → E a c) (hc : ∀ a b, a < n → b < n → cmp a b = 0 → E a b) (hst : Stab cmp ord n) (hlen : ord.length = n) (hnd : ord.Nodup) (hlt : ∀ x ∈ ord, x < n) :
    ∀ k, k ≤ n → ∀ i, i < k → (firstTo cmp ord n k).getD (ord.getD i 0) 0 ≤ ord.getD i 0 ∧ E ((firstTo cmp ord n k).getD (ord.getD i 0) 0) (ord.getD i 0)
  | 0, _, i, h => by omega
  | k + 1, hk, i, hi => by
    have hg : ∀ i, (h : i < n) → ord.getD i 0 = ord[i]'(by omega) := fun i h => by simp [List.getD, show i < ord.length by omega]
    have hl : ∀ i, i < n → ord.getD i 0 < n := fun i h => by rw [hg i h]; exact hlt _ (List.getElem_mem _)
    have hne : ∀ i j, i < n → j < n → i ≠ j → ord.getD i 0 ≠ ord.getD j 0 := fun i j h1 h2 h3 => by
      rw [hg i h1, hg j h2]
      intro e
      exact h3 ((List.getElem_inj hnd).1 e)
    have ih := first_ok hr ht hc hst hlen hnd hlt k (by omega)
    have hfl := firstTo_len cmp ord n k
    have hkk := hl k (by omega)
    rw [show firstTo cmp ord n (k + 1) = fstep cmp ord k (firstTo cmp ord n k) from rfl]
    unfold fstep
    by_cases e : i = k
    · subst e
      split
      · rename_i hz
        rw [getD_set_self (by rw [List.length_set, hfl]; exact hkk), getD_set_ne (hne i (i - 1) (by omega) (by omega) (by omega))]
        obtain ⟨h1, h2⟩ := ih (i - 1) (by omega)
        have h3 := hst (i - 1) i (by omega) (by omega)
        have h4 : ord.getD (i - 1) 0 < ord.getD i 0 := by
          rcases h3 with h3 | h3
          · exact h3
          · omega
        exact ⟨by omega, ht _ _ _ h2 (hc _ _ (hl _ (by omega)) hkk hz.2)⟩
      · rw [getD_set_self (by omega)]
        exact ⟨Nat.le_refl _, hr _⟩
    · have hi' := ih i (by omega)
      have hne' := hne k i (by omega) (by omega) (fun e' => e e'.symm)
      split
      · rw [getD_set_ne hne', getD_set_ne hne']
        exact hi'
      · rw [getD_set_ne hne']
        exact hi'

theorem num_ok {f : List Nat} (hs : ∀ a b, E a b → E b a) (hr : ∀ a, E a a) (ht : ∀ a b c, E a b → E b c → E a c) (hf : ∀ k, k < n → f.getD k 0 ≤ k ∧ E (f.getD k 0) k) :
    ∀ k, k ≤ n → (∀ j, j < k → (numTo f n k).1.getD j 0 < (numTo f n k).2) ∧ ∀ i j, i < k → j < k → (numTo f n k).1.getD i 0 = (numTo f n k).1.getD j 0 → E i j
  | 0, _ => ⟨fun j h => by omega, fun i j h => by omega⟩
  | k + 1, hk => by
    obtain ⟨h1, h2⟩ := num_ok hs hr ht hf k (by omega)
    obtain ⟨f1, f2⟩ := hf k (by omega)
    have hl := numTo_len f n k
    rw [show numTo f n (k + 1) = nstep f k (numTo f n k) from rfl]
    unfold nstep
    generalize numTo f n k = s at *
    obtain ⟨num, cnt⟩ := s
    simp only at h1 h2 hl ⊢
    by_cases e : f.getD k 0 = k
    · rw [if_pos e]
      have hv : ∀ j, j < k + 1 → (num.set k cnt).getD j 0 = if j = k then cnt else num.getD j 0 := fun j hj => by
        by_cases e : j = k
        · subst e; rw [if_pos rfl, getD_set_self (by omega)]
        · rw [if_neg e, getD_set_ne (fun e' => e e'.symm)]
      refine ⟨fun j hj => ?_, fun i j hi hj hij => ?_⟩
      · rw [hv j hj]
        split
        · show cnt < cnt + 1; omega
        · have := h1 j (by omega); show num.getD j 0 < cnt + 1; omega
      · rw [hv i hi, hv j hj] at hij
        by_cases e1 : i = k <;> by_cases e2 : j = k
        · rw [e1, e2]; exact hr _
        · rw [if_pos e1, if_neg e2] at hij
          have := h1 j (by omega); omega
        · rw [if_neg e1, if_pos e2] at hij
          have := h1 i (by omega); omega
        · rw [if_neg e1, if_neg e2] at hij
          exact h2 i j (by omega) (by omega) hij
    · rw [if_neg e]
      have hfk : f.getD k 0 < k := by omega
      have hv : ∀ j, j < k + 1 → (num.set k (num.getD (f.getD k 0) 0)).getD j 0 = if j = k then num.getD (f.getD k 0) 0 else num.getD j 0 := fun j hj => by
        by_cases e : j = k
        · subst e; rw [if_pos rfl, getD_set_self (by omega)]
        · rw [if_neg e, getD_set_ne (fun e' => e e'.symm)]
      refine ⟨fun j hj => ?_, fun i j hi hj hij => ?_⟩
      · rw [hv j hj]
        split
        · exact h1 _ hfk
        · exact h1 j (by omega)
      · rw [hv i hi, hv j hj] at hij
        by_cases e1 : i = k <;> by_cases e2 : j = k
        · rw [e1, e2]; exact hr _
        · rw [if_pos e1, if_neg e2] at hij
          have := h2 _ _ hfk (show j < k by omega) hij
          rw [e1]
          exact ht _ _ _ (hs _ _ f2) this
        · rw [if_neg e1, if_pos e2] at hij
          have := h2 _ _ (show i < k by omega) hfk hij
          rw [e2]
          exact ht _ _ _ this f2
        · rw [if_neg e1, if_neg e2] at hij
          exact h2 i j (by omega) (by omega) hij

theorem number_alike (hs : ∀ a b, E a b → E b a) (hr : ∀ a, E a a) (ht : ∀ a b c, E a b → E b c → E a c) (hc : ∀ a b, a < n → b < n → cmp a b = 0 → E a b) {i j : Nat} (hi : i < n) (hj : j < n) (h : (numberOf cmp n).1.getD i 0 = (numberOf cmp n).1.getD j 0) : E i j := by
  obtain ⟨o1, o2, o3⟩ := ord_facts cmp n
  obtain ⟨hst, _, _, _⟩ := ins_st cmp n n (Nat.le_refl _)
  have hmem : ∀ k, k < n → ∃ i, i < n ∧ (insTo cmp (upTo n n) n).getD i 0 = k := fun k hk => by
    have hp := insTo_perm cmp (upTo n n) n (by rw [upTo_len]; exact Nat.le_refl _)
    have : k ∈ insTo cmp (upTo n n) n := by
      rw [hp.mem_iff, upTo_range]
      simpa using hk
    obtain ⟨i, hi⟩ := List.getElem?_of_mem this
    have hil := (List.getElem?_eq_some_iff.1 hi).1
    exact ⟨i, by omega, by rw [List.getD_eq_getElem?_getD, hi]; rfl⟩
  unfold numberOf at h
  generalize insTo cmp (upTo n n) n = ord at *
  have hf := first_ok hr ht hc hst o1 o2 o3 n (Nat.le_refl _)
  exact (num_ok hs hr ht (fun k hk => by
    obtain ⟨i, hi, e⟩ := hmem k hk
    have := hf i hi
    rw [e] at this
    exact this) n (Nat.le_refl _)).2 i j hi hj h
end

/-! ### the comparisons -/
theorem cmpI_zero {x y : Nat} (h : cmpI (x : Int) (y : Int) = 0) : x = y := by
  unfold cmpI at h
  split at h
  · omega
  · split at h
    · omega
    · omega
theorem orI_zero {p q : Int} (h : orI p q = 0) : p = 0 ∧ q = 0 := by
  unfold orI at h
  split at h
  · rename_i e; exact ⟨e, h⟩
  · rename_i e; exact absurd h e
theorem cmpC_zero {a b : Nat × Nat} (h : cmpC a b = 0) : a = b := by
  obtain ⟨h1, h2⟩ := orI_zero h
  exact Prod.ext (cmpI_zero h1) (cmpI_zero h2)
theorem cmpL_zero : ∀ {l m : List (Nat × Nat)}, cmpL l m = 0 → l = m
  | [], [], _ => rfl
  | [], _ :: _, h => by simp [cmpL] at h
  | _ :: _, [], h => by simp [cmpL] at h
  | a :: l, b :: m, h => by
    rw [cmpL] at h
    split at h
    · rename_i e
      rw [cmpC_zero e, cmpL_zero h]
    · rename_i e
      exact absurd h e
theorem cmpRow_zero {r s : Nat × List (Nat × Nat)} (h : cmpRow r s = 0) : r = s := by
  obtain ⟨h1, h2⟩ := orI_zero h
  exact Prod.ext (cmpI_zero h1) (cmpL_zero h2)

/-! ### the rows -/
theorem kept_get {rows : List (Nat × List (Nat × Nat))} {num : List Nat} {m : Nat} (hm : ∀ k, num.getD k 0 < m) : ∀ i k, k < i → ∃ k', k' < i ∧ num.getD k' 0 = num.getD k 0 ∧ (keptTo rows num m i)[num.getD k 0]? = some (rows.getD k' (0, []))
  | 0, k, h => by omega
  | i + 1, k, h => by
    rw [show keptTo rows num m (i + 1) = (keptTo rows num m i).set (num.getD i 0) (rows.getD i (0, [])) from rfl]
    by_cases e : num.getD i 0 = num.getD k 0
    · exact ⟨i, by omega, e, by rw [← e, List.getElem?_set_self (by rw [keptTo_len]; exact hm i)]⟩
    · have hki : k < i := by
        rcases Nat.lt_or_ge k i with h1 | h1
        · exact h1
        · exact absurd (by rw [show k = i by omega]) e
      obtain ⟨k', h1, h2, h3⟩ := kept_get hm i k hki
      exact ⟨k', by omega, h2, by rw [List.getElem?_set_ne e]; exact h3⟩

theorem merged_holds {W : World} {p : Nat} {R : Rel} (h : RelAt W p R) (hpos : 0 < R.n0) (v : Value) (kb : Nat) (x y : ByteArray) : (R.merged v kb).holds x y = R.holds x y := by
  have h0 := h.s0.lt x
  have hlen := h.len
  obtain ⟨_, _, hm, _, _⟩ := numberOf_facts (fun k l => cmpRow (R.rows.getD k (0, [])) (R.rows.getD l (0, []))) hpos
  obtain ⟨k', hk', e1, e2⟩ := kept_get (rows := R.rows) (num := R.rowNum.1) (m := R.rowNum.2) hm R.n0 (R.of0 x) h0
  have hal : R.rows.getD k' (0, []) = R.rows.getD (R.of0 x) (0, []) := number_alike (E := fun a b => R.rows.getD a (0, []) = R.rows.getD b (0, [])) (fun _ _ h => h.symm) (fun _ => rfl) (fun _ _ _ h1 h2 => h1.trans h2) (fun a b _ _ h => cmpRow_zero h) hk' h0 e1
  have hr : R.rows[R.of0 x]? = some (R.rows.getD (R.of0 x) (0, [])) := by
    rw [List.getD_eq_getElem?_getD, List.getElem?_eq_getElem (by omega)]
    rfl
  have ec : (R.merged v kb).cellAt x y = R.cellAt x y := by
    unfold Rel.cellAt
    rw [hr, ← hal]
    show (match (keptTo R.rows R.rowNum.1 R.rowNum.2 R.n0)[R.rowNum.1.getD (R.of0 x) 0]? with | some r => _ | none => _) = _
    rw [e2]
    rfl
  unfold Rel.holds Rel.byC
  rw [ec]
  rfl

/-! ### the columns -/
theorem mem_ents {rows : List Row} {k0 : Nat} {e : Ent} : e ∈ ents k0 rows ↔ ∃ i r, rows[i]? = some r ∧ e.1 = k0 + i ∧ (e.2.1, e.2.2) ∈ r.2 := by
  induction rows generalizing k0 with
  | nil => simp [ents]
  | cons r rs ih =>
    simp only [ents, List.mem_append, List.mem_map, ih]
    constructor
    · rintro (⟨d, hd, rfl⟩ | ⟨i, s, h1, h2, h3⟩)
      · exact ⟨0, r, rfl, rfl, hd⟩
      · exact ⟨i + 1, s, by simpa using h1, by omega, h3⟩
    · rintro ⟨i, s, h1, h2, h3⟩
      cases i with
      | zero =>
        simp at h1
        subst h1
        refine .inl ⟨(e.2.1, e.2.2), h3, ?_⟩
        obtain ⟨a, b, c⟩ := e
        simp at h2 ⊢
        exact h2.symm
      | succ i => exact .inr ⟨i, s, by simpa using h1, by omega, h3⟩

theorem mem_col {rows : List Row} {c i v : Nat} {r : Row} (hr : rows[i]? = some r) : (i, v) ∈ colE (ents 0 rows) c ↔ (c, v) ∈ r.2 := by
  unfold colE
  simp only [List.mem_map, List.mem_filter, beq_iff_eq, Prod.mk.injEq]
  constructor
  · rintro ⟨e, ⟨h1, h2⟩, h3, h4⟩
    obtain ⟨j, s, g1, g2, g3⟩ := mem_ents.1 h1
    rw [Nat.zero_add, h3] at g2
    subst g2
    rw [hr] at g1
    cases g1
    rw [h2, h4] at g3
    exact g3
  · intro h
    exact ⟨(i, c, v), ⟨mem_ents.2 ⟨i, r, hr, by simp, h⟩, rfl⟩, rfl, rfl⟩

theorem at_mem {n c : Nat} {l : List (Nat × Nat)} (ok : RowOk n c l) {x v : Nat} (h : (x, v) ∈ l) : atL c l x = v := by
  obtain ⟨i, hi⟩ := List.getElem?_of_mem h
  exact atL_some ok.asc hi rfl
theorem at_not {c : Nat} {l : List (Nat × Nat)} {x : Nat} (h : ∀ v, (x, v) ∉ l) : atL c l x = c := atL_none (fun i p hp e => h p.2 (by
  have := List.mem_of_getElem? hp
  rw [← e]
  exact this))

theorem col_alike {rows : List Row} {a b : Nat} {n : Nat} (hok : ∀ r ∈ rows, RowOk n r.1 r.2) (h : colE (ents 0 rows) a = colE (ents 0 rows) b) : ∀ r ∈ rows, atL r.1 r.2 a = atL r.1 r.2 b := by
  intro r hr
  obtain ⟨i, hi⟩ := List.getElem?_of_mem hr
  have ok := hok r hr
  by_cases e : ∃ v, (a, v) ∈ r.2
  · obtain ⟨v, hv⟩ := e
    have h2 : (b, v) ∈ r.2 := (mem_col hi).1 (h ▸ (mem_col hi).2 hv)
    rw [at_mem ok hv, at_mem ok h2]
  · have e1 : ∀ v, (a, v) ∉ r.2 := fun v hv => e ⟨v, hv⟩
    have e2 : ∀ v, (b, v) ∉ r.2 := fun v hv => e1 v ((mem_col hi).1 (h ▸ (mem_col hi).2 hv))
    rw [at_not e1, at_not e2]

theorem cpt_has {l : List (Nat × Nat)} : ∀ i, i ≤ l.length → ∀ j, j < i → ∃ p ∈ cptTo l i, p.1 = (l.getD j (0, 0)).1
  | 0, _, j, h => by omega
  | i + 1, hi, j, hj => by
    have ih := cpt_has (l := l) i (by omega)
    rw [cptTo]
    split
    · rcases Nat.lt_or_ge j i with h | h
      · obtain ⟨p, h1, h2⟩ := ih j h
        exact ⟨p, List.mem_append.2 (.inl h1), h2⟩
      · rw [show j = i by omega]
        exact ⟨_, List.mem_append.2 (.inr (by simp)), rfl⟩
    · rename_i hn
      rcases Nat.lt_or_ge j i with h | h
      · exact ih j h
      · have h1 : i ≠ 0 := fun e => hn (.inl e)
        have h2 : (l.getD i (0, 0)).1 = (l.getD (i - 1) (0, 0)).1 := Classical.byContradiction fun e => hn (.inr e)
        obtain ⟨p, g1, g2⟩ := ih (i - 1) (by omega)
        exact ⟨p, g1, by rw [show j = i by omega, h2]; exact g2⟩

theorem newRow_at {num : List Nat} {n m : Nat} {r r' : Row} (ok : RowOk n r.1 r.2) (hm : ∀ k, num.getD k 0 < m) (hal : ∀ a b, a < n → b < n → num.getD a 0 = num.getD b 0 → atL r.1 r.2 a = atL r.1 r.2 b) (h : NewRow num m r r') {l : Nat} (hl : l < n) : atL r'.1 r'.2 (num.getD l 0) = atL r.1 r.2 l := by
  obtain ⟨_, srt, hp, ho, hat⟩ := h
  rw [hat _ (hm l)]
  have okc := cpt_ok ok hm hp ho
  have hin : ∀ q, q ∈ cptTo srt srt.length → q.1 = num.getD l 0 → q.2 = atL r.1 r.2 l ∧ ∃ a, (a, q.2) ∈ r.2 ∧ num.getD a 0 = num.getD l 0 := fun q hq e => by
    obtain ⟨j, _, hj⟩ := cpt_mem (Nat.le_refl _) hq
    have h1 := hp.mem_iff.1 (List.mem_of_getElem? hj)
    obtain ⟨d, hd, rfl⟩ := List.mem_map.1 h1
    obtain ⟨i, hi⟩ := List.getElem?_of_mem hd
    have hdn := (ok.each i d hi).1
    have h2 := hal d.1 l hdn hl e
    rw [at_mem ok (show (d.1, d.2) ∈ r.2 from hd)] at h2
    exact ⟨h2, d.1, hd, e⟩
  by_cases e : ∃ q, q ∈ cptTo srt srt.length ∧ q.1 = num.getD l 0
  · obtain ⟨q, h1, h2⟩ := e
    rw [← h2, at_mem okc (show (q.1, q.2) ∈ cptTo srt srt.length from h1)]
    exact (hin q h1 h2).1
  · rw [at_not (c := r.1) (l := cptTo srt srt.length) (x := num.getD l 0) (fun v hv => e ⟨_, hv, rfl⟩)]
    refine (at_not fun v hv => e ?_).symm
    have h1 : (num.getD l 0, v) ∈ srt := hp.mem_iff.2 (List.mem_map.2 ⟨(l, v), hv, rfl⟩)
    obtain ⟨j, hj⟩ := List.getElem?_of_mem h1
    have hjl := (List.getElem?_eq_some_iff.1 hj).1
    obtain ⟨q, h2, h3⟩ := cpt_has srt.length (Nat.le_refl _) j hjl
    refine ⟨q, h2, ?_⟩
    rw [h3, List.getD_eq_getElem?_getD, hj]
    rfl

theorem cols_holds {W : World} {p : Nat} {R : Rel} (h : RelAt W p R) (hpos : 0 < R.n1) {v : Value} {rows' : List Row} (hl : rows'.length = R.n0) (hn : ∀ k, k < R.n0 → NewRow R.colNum.1 R.colNum.2 (R.rows.getD k (0, [])) (rows'.getD k (0, []))) (x y : ByteArray) : (R.cols v rows').holds x y = R.holds x y := by
  have h0 := h.s0.lt x
  have h1 := h.s1.lt y
  have hlen := h.len
  have hok : ∀ r ∈ R.rows, RowOk R.n1 r.1 r.2 := fun r hr => by
    obtain ⟨i, hi⟩ := List.getElem?_of_mem hr
    exact (h.rows i r hi).1
  obtain ⟨_, _, hm, _, _⟩ := numberOf_facts (fun k l => cmpL (colE (ents 0 R.rows) k) (colE (ents 0 R.rows) l)) hpos
  have hr : R.rows[R.of0 x]? = some (R.rows.getD (R.of0 x) (0, [])) := by
    rw [List.getD_eq_getElem?_getD, List.getElem?_eq_getElem (by omega)]
    rfl
  have hr' : rows'[R.of0 x]? = some (rows'.getD (R.of0 x) (0, [])) := by
    rw [List.getD_eq_getElem?_getD, List.getElem?_eq_getElem (by omega)]
    rfl
  have hmem := List.mem_of_getElem? hr
  have hat := newRow_at (hok _ hmem) hm (fun a b ha hb e => by
    exact number_alike (E := fun a b => ∀ r ∈ R.rows, atL r.1 r.2 a = atL r.1 r.2 b) (fun _ _ h r hr => (h r hr).symm) (fun _ _ _ => rfl) (fun _ _ _ h1 h2 r hr => (h1 r hr).trans (h2 r hr)) (fun a b _ _ h => col_alike hok (cmpL_zero h)) ha hb e _ hmem) (hn _ h0) h1
  have ec : (R.cols v rows').cellAt x y = R.cellAt x y := by
    unfold Rel.cellAt
    rw [hr]
    refine Eq.trans ?_ hat
    show (match rows'[R.of0 x]? with | some r => _ | none => _) = _
    rw [hr']
    rfl
  unfold Rel.holds Rel.byC
  rw [ec]
  rfl

/-- The plain law. -/
theorem Merged.holds {Rx R : Rel} (h : Merged Rx R) {W W' : World} {p p' : Nat} (hx : RelAt W p Rx) (hR : RelAt W' p' R) (h0 : 0 < Rx.n0) (h1 : 0 < R.n1) (x y : ByteArray) : R.holds x y = Rx.holds x y := by
  obtain ⟨R1, hR1, ⟨W1, p1, hr1⟩, hR2⟩ := h
  have e1 : R1.holds x y = Rx.holds x y := by
    rcases hR1 with rfl | ⟨v, kb, rfl⟩
    · rfl
    · exact merged_holds hx h0 v kb x y
  have hn : 0 < R1.n1 := by
    rcases hR2 with rfl | ⟨v, rows', rfl, _⟩
    · exact h1
    · have := hr1.s1.lt y
      omega
  rcases hR2 with rfl | ⟨v, rows', rfl, hrow⟩
  · exact e1
  · exact (cols_holds (v := v) hr1 hn (show rows'.length = R1.n0 from hR.len) hrow x y).trans e1
end Go.Proofs.Ybulkatiq
