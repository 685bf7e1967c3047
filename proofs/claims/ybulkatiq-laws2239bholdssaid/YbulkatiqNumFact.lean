/-
  numberAlike's answer: the bounds.
-/
import Derived.Test.YbulkatiqNumLaw
namespace Go.Proofs.Ybulkatiq

theorem getD_set_ne {l : List Nat} {i j x : Nat} (h : i ≠ j) : (l.set i x).getD j 0 = l.getD j 0 := by
  simp only [List.getD, List.getElem?_set_ne h]
theorem getD_set_self {l : List Nat} {i x : Nat} (h : i < l.length) : (l.set i x).getD i 0 = x := by
  simp [List.getD, List.getElem?_set_self h]
theorem getD_replicate0 (n i : Nat) : (List.replicate n 0).getD i 0 = 0 := by
  simp only [List.getD, List.getElem?_replicate]
  split <;> rfl

theorem numTo_len (f : List Nat) (n k : Nat) : (numTo f n k).1.length = n := by
  induction k with
  | zero => simp [numTo]
  | succ k ih =>
    rw [show numTo f n (k + 1) = nstep f k (numTo f n k) from rfl]
    unfold nstep
    split <;> simp [ih]

theorem firstTo_len (cmp : Nat → Nat → Int) (ord : List Nat) (n k : Nat) : (firstTo cmp ord n k).length = n := by
  induction k with
  | zero => simp [firstTo]
  | succ k ih =>
    rw [show firstTo cmp ord n (k + 1) = fstep cmp ord k (firstTo cmp ord n k) from rfl]
    unfold fstep
    split <;> simp [ih]

theorem numTo_zero (f : List Nat) (n k : Nat) : (numTo f n k).1.getD 0 0 = 0 := by
  induction k with
  | zero => exact getD_replicate0 n 0
  | succ k ih =>
    rw [show numTo f n (k + 1) = nstep f k (numTo f n k) from rfl]
    unfold nstep
    rcases Nat.eq_zero_or_pos k with h | h
    · subst h
      have e : numTo f n 0 = (List.replicate n 0, 0) := rfl
      rw [e]
      rcases Nat.eq_zero_or_pos n with hn | hn
      · subst hn
        split <;> rfl
      · split
        · exact getD_set_self (by simpa using hn)
        · show ((List.replicate n 0).set 0 ((List.replicate n 0).getD (f.getD 0 0) 0)).getD 0 0 = 0
          rw [getD_set_self (by simpa using hn), getD_replicate0]
    · split
      · show ((numTo f n k).1.set k _).getD 0 0 = 0
        rw [getD_set_ne (by omega)]; exact ih
      · show ((numTo f n k).1.set k _).getD 0 0 = 0
        rw [getD_set_ne (by omega)]; exact ih

theorem firstTo_head {cmp : Nat → Nat → Int} {ord : List Nat} {n : Nat} (hlen : ord.length = n) (hnd : ord.Nodup) (hlt : ∀ x ∈ ord, x < n) : ∀ j, 1 ≤ j → j ≤ n → (firstTo cmp ord n j).getD (ord.getD 0 0) 0 = ord.getD 0 0
  | 0, h, _ => by omega
  | j + 1, _, hj => by
    have hg : ∀ i, (h : i < n) → ord.getD i 0 = ord[i]'(by omega) := fun i h => by simp [List.getD, show i < ord.length by omega]
    have h0 : ord.getD 0 0 < n := by rw [hg 0 (by omega)]; exact hlt _ (List.getElem_mem _)
    rw [show firstTo cmp ord n (j + 1) = fstep cmp ord j (firstTo cmp ord n j) from rfl]
    unfold fstep
    rcases Nat.eq_zero_or_pos j with h | h
    · subst h
      rw [if_neg (fun h => by have := h.1; omega)]
      exact getD_set_self (by rw [firstTo_len]; exact h0)
    · have hne : ord.getD j 0 ≠ ord.getD 0 0 := by
        rw [hg j (by omega), hg 0 (by omega)]
        intro e
        have := (List.getElem_inj hnd).1 e
        omega
      split
      · rw [getD_set_ne hne, getD_set_ne hne]
        exact firstTo_head hlen hnd hlt j h (by omega)
      · rw [getD_set_ne hne]
        exact firstTo_head hlen hnd hlt j h (by omega)

theorem ord_facts (cmp : Nat → Nat → Int) (n : Nat) : (insTo cmp (upTo n n) n).length = n ∧ (insTo cmp (upTo n n) n).Nodup ∧ ∀ x ∈ insTo cmp (upTo n n) n, x < n := by
  have hp := insTo_perm cmp (upTo n n) n (by rw [upTo_len]; exact Nat.le_refl _)
  rw [upTo_range] at hp ⊢
  refine ⟨by rw [hp.length_eq]; simp, hp.nodup_iff.2 List.nodup_range, fun x hx => ?_⟩
  simpa using hp.mem_iff.1 hx

theorem numberOf_facts (cmp : Nat → Nat → Int) {n : Nat} (hpos : 0 < n) : 1 ≤ (numberOf cmp n).2 ∧ (numberOf cmp n).2 ≤ n ∧ (∀ k, (numberOf cmp n).1.getD k 0 < (numberOf cmp n).2) ∧ (numberOf cmp n).1.getD 0 0 = 0 ∧ (numberOf cmp n).1.length = n := by
  obtain ⟨h1, h2, h3⟩ := ord_facts cmp n
  unfold numberOf
  generalize insTo cmp (upTo n n) n = ord at *
  have hh := firstTo_head (cmp := cmp) h1 h2 h3 n hpos (Nat.le_refl _)
  have h0 : ord.getD 0 0 < n := by
    have : ord.getD 0 0 = ord[0]'(by omega) := by simp [List.getD, show 0 < ord.length by omega]
    rw [this]
    exact h3 _ (List.getElem_mem _)
  have hp := numTo_pos (n := n) hh n h0
  refine ⟨hp, numTo_le _ n n, fun k => ?_, numTo_zero _ n n, numTo_len _ n n⟩
  rcases Nat.lt_or_ge k n with hk | hk
  · have hm : (numTo (firstTo cmp ord n n) n n).1.getD k 0 ∈ (numTo (firstTo cmp ord n n) n n).1 := by
      have hl := numTo_len (firstTo cmp ord n n) n n
      have : (numTo (firstTo cmp ord n n) n n).1.getD k 0 = (numTo (firstTo cmp ord n n) n n).1[k]'(by omega) := by simp [List.getD, show k < (numTo (firstTo cmp ord n n) n n).1.length by omega]
      rw [this]
      exact List.getElem_mem _
    have := numTo_each _ n n _ hm
    omega
  · have hl := numTo_len (firstTo cmp ord n n) n n
    have : (numTo (firstTo cmp ord n n) n n).1.getD k 0 = 0 := by simp [List.getD, show (numTo (firstTo cmp ord n n) n n).1.length ≤ k by omega]
    omega
end Go.Proofs.Ybulkatiq
