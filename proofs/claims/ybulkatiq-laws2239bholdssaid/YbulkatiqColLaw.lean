/-
  mergeColumns, plainly: the entries of the rows, class by class.
-/
import Derived.Test.YbulkatiqCol
namespace Go.Proofs.Ybulkatiq

abbrev Row := Nat × List (Nat × Nat)
/-- An entry: the row, the class, the cell. -/
abbrev Ent := Nat × Nat × Nat

def ents (k0 : Nat) : List Row → List Ent
  | [] => []
  | r :: rs => r.2.map (fun d => (k0, d.1, d.2)) ++ ents (k0 + 1) rs

theorem ents_append (k0 : Nat) (a b : List Row) : ents k0 (a ++ b) = ents k0 a ++ ents (k0 + a.length) b := by
  induction a generalizing k0 with
  | nil => simp [ents]
  | cons r a ih => simp [ents, ih, Nat.add_assoc, Nat.add_comm 1]

/-- The entries that lie ahead of place i of row k. -/
def doneE (rows : List Row) (k i : Nat) : List Ent := ents 0 (rows.take k) ++ ((rows.getD k (0, [])).2.take i).map (fun d => (k, d.1, d.2))

theorem doneE_zero (rows : List Row) : doneE rows 0 0 = [] := by simp [doneE, ents]

theorem doneE_row {rows : List Row} {k : Nat} (hk : k < rows.length) : doneE rows k (rows.getD k (0, [])).2.length = doneE rows (k + 1) 0 := by
  unfold doneE
  rw [List.take_add_one, ents_append]
  have e : rows[k]? = some (rows.getD k (0, [])) := by simp [List.getD, hk]
  rw [e]
  simp [ents, Nat.min_eq_left (Nat.le_of_lt hk)]

theorem doneE_all (rows : List Row) : doneE rows rows.length 0 = ents 0 rows := by simp [doneE]

theorem doneE_snoc {rows : List Row} {k i : Nat} {d : Nat × Nat} (hd : (rows.getD k (0, [])).2[i]? = some d) : doneE rows k (i + 1) = doneE rows k i ++ [(k, d.1, d.2)] := by
  unfold doneE
  rw [List.take_add_one, hd]
  simp

theorem doneE_prefix {rows : List Row} {k i : Nat} (hk : k < rows.length) : ∃ r, ents 0 rows = doneE rows k i ++ r := by
  have e1 : ents 0 rows = doneE rows (k + 1) 0 ++ ents (0 + (rows.take (k + 1)).length) (rows.drop (k + 1)) := by
    unfold doneE
    rw [← List.take_append_drop (k + 1) rows, ents_append]
    simp
  rw [e1, ← doneE_row hk]
  refine ⟨((rows.getD k (0, [])).2.drop i).map (fun d => (k, d.1, d.2)) ++ ents (0 + (rows.take (k + 1)).length) (rows.drop (k + 1)), ?_⟩
  unfold doneE
  rw [List.append_assoc, ← List.append_assoc, ← List.append_assoc, List.append_assoc (ents 0 _), List.append_assoc (ents 0 _), ← List.map_append, List.take_append_drop, List.take_length]
  simp

def colE (es : List Ent) (c : Nat) : List (Nat × Nat) := (es.filter (fun e => e.2.1 == c)).map (fun e => (e.1, e.2.2))

theorem colE_append (a b : List Ent) (c : Nat) : colE (a ++ b) c = colE a c ++ colE b c := by simp [colE]
theorem colE_one_same (k c x : Nat) : colE [(k, c, x)] c = [(k, x)] := by simp [colE]
theorem colE_one_other {k c x c' : Nat} (h : c ≠ c') : colE [(k, c, x)] c' = [] := by simp [colE, h]

def sumC (es : List Ent) : Nat → Nat
  | 0 => 0
  | c + 1 => sumC es c + (colE es c).length

theorem sumC_append (a b : List Ent) (c : Nat) : sumC (a ++ b) c = sumC a c + sumC b c := by
  induction c with
  | zero => rfl
  | succ c ih => simp only [sumC, ih, colE_append, List.length_append]; omega

theorem sumC_one (e : Ent) (c : Nat) : sumC [e] c = if e.2.1 < c then 1 else 0 := by
  induction c with
  | zero => simp [sumC]
  | succ c ih =>
    rw [sumC, ih]
    obtain ⟨k, d, x⟩ := e
    by_cases h : d = c
    · subst h
      simp [colE]
    · have : colE [(k, d, x)] c = [] := colE_one_other h
      rw [this]
      simp only [List.length_nil, Nat.add_zero]
      by_cases h2 : d < c
      · rw [if_pos h2, if_pos (by omega)]
      · rw [if_neg h2, if_neg (by omega)]

theorem sumC_le (es : List Ent) (c : Nat) : sumC es c ≤ es.length := by
  induction es with
  | nil =>
    induction c with
    | zero => exact Nat.le_refl _
    | succ c ih => simp only [sumC, colE, List.filter_nil, List.map_nil, List.length_nil] at ih ⊢; omega
  | cons e es ih =>
    rw [show e :: es = [e] ++ es from rfl, sumC_append, sumC_one]
    simp only [List.length_append, List.length_cons, List.length_nil]
    split <;> omega

theorem sumC_mono (es : List Ent) {a b : Nat} (h : a ≤ b) : sumC es a ≤ sumC es b := by
  induction b with
  | zero => rw [show a = 0 by omega]; exact Nat.le_refl _
  | succ b ih =>
    rcases Nat.lt_or_ge a (b + 1) with h1 | h1
    · exact Nat.le_trans (ih (by omega)) (Nat.le_add_right _ _)
    · rw [show a = b + 1 by omega]; exact Nat.le_refl _

theorem ents_len {rows : List Row} {n : Nat} (h : ∀ r ∈ rows, r.2.length ≤ n) (k0 : Nat) : (ents k0 rows).length ≤ rows.length * n := by
  induction rows generalizing k0 with
  | nil => simp [ents]
  | cons r rs ih =>
    have h1 := h r (by simp)
    have h2 := ih (fun r hr => h r (by simp [hr])) (k0 + 1)
    simp only [ents, List.length_append, List.length_map, List.length_cons, Nat.add_mul, Nat.one_mul]
    omega

/-- The starts while the entries es are counted. -/
structure Cnt (es : List Ent) (n : Nat) (d : List Nat) : Prop where
  len : d.length = n + 1
  zero : d.getD 0 0 = 0
  each : ∀ c, c < n → d.getD (c + 1) 0 = (colE es c).length

theorem Cnt.start (n : Nat) : Cnt [] n (List.replicate (n + 1) 0) := ⟨by simp, getD_replicate0 _ _, fun c _ => by rw [getD_replicate0]; rfl⟩

theorem Cnt.step {es : List Ent} {n : Nat} {d : List Nat} (h : Cnt es n d) {k c x : Nat} (hc : c < n) : Cnt (es ++ [(k, c, x)]) n (d.set (c + 1) (d.getD (c + 1) 0 + 1)) := by
  have hl := h.len
  refine ⟨by simpa using hl, by rw [getD_set_ne (by omega)]; exact h.zero, fun c' hc' => ?_⟩
  rw [colE_append]
  by_cases e : c' = c
  · subst e
    rw [getD_set_self (by omega), h.each c' hc', colE_one_same]
    simp
  · rw [getD_set_ne (by omega), h.each c' hc', colE_one_other (fun h => e h.symm)]
    simp

/-- The starts while they are summed, up to l. -/
structure Sums (es : List Ent) (n l : Nat) (d : List Nat) : Prop where
  len : d.length = n + 1
  low : ∀ j, j ≤ l → d.getD j 0 = sumC es j
  high : ∀ c, l ≤ c → c < n → d.getD (c + 1) 0 = (colE es c).length

theorem Cnt.sums {es : List Ent} {n : Nat} {d : List Nat} (h : Cnt es n d) : Sums es n 0 d := ⟨h.len, fun j hj => by rw [show j = 0 by omega]; exact h.zero, fun c _ hc => h.each c hc⟩

theorem Sums.step {es : List Ent} {n l : Nat} {d : List Nat} (h : Sums es n l d) (hl : l < n) : Sums es n (l + 1) (d.set (l + 1) (d.getD (l + 1) 0 + d.getD l 0)) := by
  have hlen := h.len
  refine ⟨by simpa using hlen, fun j hj => ?_, fun c h1 h2 => ?_⟩
  · by_cases e : j = l + 1
    · subst e
      rw [getD_set_self (by omega), h.high l (Nat.le_refl _) hl, h.low l (Nat.le_refl _), sumC]
      omega
    · rw [getD_set_ne (by omega)]
      exact h.low j (by omega)
  · rw [getD_set_ne (by omega)]
    exact h.high c (by omega) h2

/-- The listing and the next free places while the entries es are laid. -/
structure Lay (all es : List Ent) (n : Nat) (nx : List Nat) (ls : List (Nat × Nat)) : Prop where
  nlen : nx.length = n
  llen : ls.length = sumC all n
  next : ∀ c, c < n → nx.getD c 0 = sumC all c + (colE es c).length
  seg : ∀ c, c < n → ∀ j p, (colE es c)[j]? = some p → ls[sumC all c + j]? = some p

theorem Lay.room {all es : List Ent} {n : Nat} {nx : List Nat} {ls : List (Nat × Nat)} (h : Lay all es n nx ls) {k c x : Nat} {r : List Ent} (hp : all = (es ++ [(k, c, x)]) ++ r) (hc : c < n) : nx.getD c 0 < sumC all (c + 1) ∧ sumC all (c + 1) ≤ sumC all n := by
  refine ⟨?_, sumC_mono all (by omega)⟩
  rw [h.next c hc, sumC]
  have : (colE all c).length = (colE es c).length + 1 + (colE r c).length := by
    rw [hp, colE_append, colE_append, colE_one_same]
    simp
    omega
  omega

theorem Lay.step {all es : List Ent} {n : Nat} {nx : List Nat} {ls : List (Nat × Nat)} (h : Lay all es n nx ls) {k c x : Nat} {r : List Ent} (hp : all = (es ++ [(k, c, x)]) ++ r) (hc : c < n) : Lay all (es ++ [(k, c, x)]) n (nx.set c (nx.getD c 0 + 1)) (ls.set (nx.getD c 0) (k, x)) := by
  have hr := h.room hp hc
  have hl := h.llen
  have hn := h.nlen
  have hnx := h.next c hc
  refine ⟨by simpa using hn, by simpa using hl, fun c' hc' => ?_, fun c' hc' j p hj => ?_⟩
  · rw [colE_append]
    by_cases e : c' = c
    · subst e
      rw [getD_set_self (by omega), hnx, colE_one_same]
      simp; omega
    · rw [getD_set_ne (by omega), h.next c' hc', colE_one_other (fun h => e h.symm)]
      simp
  · rw [colE_append] at hj
    by_cases e : c' = c
    · subst e
      rw [colE_one_same] at hj
      rcases Nat.lt_or_ge j (colE es c').length with h1 | h1
      · rw [List.getElem?_append_left h1] at hj
        rw [List.getElem?_set_ne (by omega)]
        exact h.seg c' hc' j p hj
      · have h2 := (List.getElem?_eq_some_iff.1 hj).1
        simp at h2
        have : j = (colE es c').length := by omega
        subst this
        simp at hj
        subst hj
        rw [← hnx, List.getElem?_set_self (by omega)]
    · rw [colE_one_other (fun h => e h.symm), List.append_nil] at hj
      have h2 := (List.getElem?_eq_some_iff.1 hj).1
      have h3 : (colE es c').length ≤ (colE all c').length := by
        rw [hp, colE_append, colE_append]; simp
      have h4 := h.seg c' hc' j p hj
      rw [List.getElem?_set_ne ?_]
      · exact h4
      · rw [hnx]
        have h5 : (colE es c).length < (colE all c).length := by
          rw [hp, colE_append, colE_append, colE_one_same]; simp
        rcases Nat.lt_or_ge c c' with h6 | h6
        · have := sumC_mono all (show c + 1 ≤ c' by omega)
          rw [sumC] at this
          omega
        · have := sumC_mono all (show c' + 1 ≤ c by omega)
          rw [sumC] at this
          omega

theorem Lay.start (all : List Ent) (n : Nat) : Lay all [] n ((List.range n).map (sumC all)) (List.replicate (sumC all n) (0, 0)) := by
  refine ⟨by simp, by simp, fun c hc => ?_, fun c hc j p hj => by simp [colE] at hj⟩
  simp [List.getD, hc, colE]
end Go.Proofs.Ybulkatiq
