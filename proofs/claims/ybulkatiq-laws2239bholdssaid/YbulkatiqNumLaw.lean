/-
  numberAlike's answer, plainly: the numbers lie below the count.
-/
import Derived.Test.YbulkatiqNum
namespace Go.Proofs.Ybulkatiq

theorem mem_set_le {l : List Nat} {i x y : Nat} (h : y ∈ l.set i x) : y ∈ l ∨ y = x := by
  rcases List.mem_or_eq_of_mem_set h with h | h
  · exact .inl h
  · exact .inr h

theorem numTo_each (f : List Nat) (n k : Nat) : ∀ x ∈ (numTo f n k).1, x < max 1 (numTo f n k).2 := by
  induction k with
  | zero =>
    intro x hx
    have : x = 0 := (List.mem_replicate.1 hx).2
    omega
  | succ k ih =>
    intro x hx
    rw [show numTo f n (k + 1) = nstep f k (numTo f n k) from rfl] at hx ⊢
    unfold nstep at hx ⊢
    split at hx
    · rename_i h
      rw [if_pos h]
      rcases mem_set_le hx with h1 | h1
      · have := ih x h1
        show x < max 1 ((numTo f n k).2 + 1)
        omega
      · show x < max 1 ((numTo f n k).2 + 1)
        omega
    · rename_i h
      rw [if_neg h]
      show x < max 1 (numTo f n k).2
      rcases mem_set_le hx with h1 | h1
      · exact ih x h1
      · rw [h1, List.getD]
        cases hg : (numTo f n k).1[f.getD k 0]? with
        | none => simp; omega
        | some y => exact ih y (List.mem_of_getElem? hg)

/-- The count is at least one where some thing is the first of its kind. -/
theorem numTo_pos {f : List Nat} {n k0 : Nat} (h : f.getD k0 0 = k0) : ∀ k, k0 < k → 1 ≤ (numTo f n k).2
  | 0, hk => by omega
  | k + 1, hk => by
    rw [show numTo f n (k + 1) = nstep f k (numTo f n k) from rfl]
    unfold nstep
    split
    · show 1 ≤ (numTo f n k).2 + 1
      omega
    · rename_i hne
      show 1 ≤ (numTo f n k).2
      rcases Nat.lt_or_ge k0 k with h1 | h1
      · exact numTo_pos h k h1
      · have : k = k0 := by omega
        rw [this] at hne
        exact absurd h hne

theorem down_perm (cmp : Nat → Nat → Int) : ∀ (j : Nat) (d : List Nat), j < d.length → (down cmp d j).Perm d
  | 0, d, _ => List.Perm.refl _
  | j + 1, d, h => by
    rw [down]
    split
    · refine (down_perm cmp j _ (by simp; omega)).trans ?_
      have e1 : d.getD (j + 1) 0 = d[j + 1] := by simp [List.getD, h]
      have e2 : d.getD j 0 = d[j]'(by omega) := by simp [List.getD, show j < d.length by omega]
      rw [e1, e2]
      exact List.set_set_perm (i := j + 1) (j := j) h (by omega)
    · exact List.Perm.refl _

theorem insTo_perm (cmp : Nat → Nat → Int) (d : List Nat) : ∀ i, i ≤ d.length → (insTo cmp d i).Perm d
  | 0, _ => List.Perm.refl _
  | i + 1, h => by
    have h1 := insTo_perm cmp d i (by omega)
    rw [insTo]
    exact (down_perm cmp i _ (by rw [h1.length_eq]; omega)).trans h1

theorem upTo_len (n i : Nat) : (upTo n i).length = n := by
  induction i with
  | zero => simp [upTo]
  | succ i ih => simp [upTo, ih]

theorem upTo_get (n : Nat) : ∀ i j, j < i → i ≤ n → (upTo n i)[j]? = some j
  | 0, j, h, _ => by omega
  | i + 1, j, h, hn => by
    rw [upTo]
    by_cases e : j = i
    · subst e
      rw [List.getElem?_set_self (by rw [upTo_len]; omega)]
    · rw [List.getElem?_set_ne (fun e' => e e'.symm)]
      exact upTo_get n i j (by omega) (by omega)

theorem upTo_range (n : Nat) : upTo n n = List.range n := by
  apply List.ext_getElem?
  intro j
  rcases Nat.lt_or_ge j n with h | h
  · rw [upTo_get n n j h (Nat.le_refl _)]
    simp [h]
  · rw [List.getElem?_eq_none (by rw [upTo_len]; exact h), List.getElem?_eq_none (by simpa using h)]
end Go.Proofs.Ybulkatiq
