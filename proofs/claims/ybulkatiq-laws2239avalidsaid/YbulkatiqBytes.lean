/-
  The plain law of LawS2239AValid: the bytes of the five runes, and where their characters begin.
-/
import Derived.Test.YbulkatiqRunes
namespace Go.Proofs.Ybulkatiq.Clip

def enc (z : Int) : List UInt8 := if z % 5 = 0 then [97] else if z % 5 = 1 then [195, 169] else if z % 5 = 2 then [226, 130, 172] else if z % 5 = 3 then [240, 159, 152, 128] else [122]
def bytesOf (zs : List Int) : List UInt8 := zs.flatMap enc
def blen (zs : List Int) (i : Nat) : Nat := (bytesOf (zs.take i)).length
def c8 (l : List UInt8) (j : Nat) : Bool := contB ((l.getD j 0).toNat : Int)

theorem enc_ok (z : Int) : ∃ h t, enc z = h :: t ∧ contB (h.toNat : Int) = false ∧ t.length ≤ 3 ∧ ∀ c ∈ t, contB (c.toNat : Int) = true := by
  unfold enc
  split
  · exact ⟨97, [], rfl, by decide, by decide, by simp⟩
  · split
    · exact ⟨195, [169], rfl, by decide, by decide, by simp; decide⟩
    · split
      · exact ⟨226, [130, 172], rfl, by decide, by decide, by simp; decide⟩
      · split
        · exact ⟨240, [159, 152, 128], rfl, by decide, by decide, by simp; decide⟩
        · exact ⟨122, [], rfl, by decide, by decide, by simp⟩

theorem c8_left (l r : List UInt8) (j : Nat) (h : j < l.length) : c8 (l ++ r) j = c8 l j := by
  unfold c8; simp [List.getElem?_append_left h]
theorem c8_right (l r : List UInt8) (j : Nat) : c8 (l ++ r) (l.length + j) = c8 r j := by
  unfold c8; simp [List.getElem?_append_right (Nat.le_add_right l.length j)]

theorem blen_zero (l : List Int) : blen l 0 = 0 := rfl
theorem blen_cons (z : Int) (l : List Int) (i : Nat) : blen (z :: l) (i + 1) = (enc z).length + blen l i := by
  simp [blen, bytesOf]
theorem bytesOf_cons (z : Int) (l : List Int) : bytesOf (z :: l) = enc z ++ bytesOf l := by simp [bytesOf]
theorem blen_all (l : List Int) : blen l l.length = (bytesOf l).length := by simp [blen]

theorem find_char : ∀ (l : List Int) (n : Nat), n < (bytesOf l).length → ∃ i, i ≤ l.length ∧ blen l i ≤ n ∧ n < blen l i + 4 ∧ c8 (bytesOf l) (blen l i) = false ∧ ∀ j, blen l i < j → j ≤ n → c8 (bytesOf l) j = true
  | [], n, h => by simp [bytesOf] at h
  | z :: l, n, h => by
    obtain ⟨a, t, e, ha, ht, hc⟩ := enc_ok z
    by_cases hn : n < (enc z).length
    · refine ⟨0, by omega, by simp [blen_zero], ?_, ?_, ?_⟩
      · rw [e] at hn; simp at hn; rw [blen_zero]; omega
      · rw [blen_zero, bytesOf_cons, c8_left _ _ _ (by rw [e]; simp), e]; exact ha
      · intro j h1 h2
        rw [blen_zero] at h1
        rw [bytesOf_cons, c8_left _ _ _ (by omega), e]
        obtain ⟨j, rfl⟩ : ∃ k, j = k + 1 := ⟨j - 1, by omega⟩
        have hj : j < t.length := by rw [e] at hn; simp at hn; omega
        show contB (((a :: t).getD (j + 1) 0).toNat : Int) = true
        have : (a :: t).getD (j + 1) 0 = t[j] := by simp [hj]
        rw [this]
        exact hc _ (List.getElem_mem hj)
    · rw [bytesOf_cons, List.length_append] at h
      obtain ⟨i, h1, h2, h3, h4, h5⟩ := find_char l (n - (enc z).length) (by omega)
      refine ⟨i + 1, by simp; omega, by rw [blen_cons]; omega, by rw [blen_cons]; omega, by rw [blen_cons, bytesOf_cons, c8_right]; exact h4, ?_⟩
      intro j h6 h7
      rw [blen_cons] at h6
      obtain ⟨m, rfl⟩ : ∃ k, j = (enc z).length + k := ⟨j - (enc z).length, by omega⟩
      rw [bytesOf_cons, c8_right]
      exact h5 m (by omega) (by omega)

theorem starts : ∀ (l : List Int) (i : Nat), i ≤ l.length → blen l i < (bytesOf l).length → c8 (bytesOf l) (blen l i) = false
  | [], i, _, h => by simp [bytesOf] at h
  | z :: l, 0, _, h => by
    obtain ⟨a, t, e, ha, _⟩ := enc_ok z
    rw [blen_zero, bytesOf_cons, c8_left _ _ _ (by rw [e]; simp), e]; exact ha
  | z :: l, i + 1, hi, h => by
    rw [blen_cons, bytesOf_cons, c8_right]
    refine starts l i (by simpa using hi) ?_
    rw [blen_cons, bytesOf_cons, List.length_append] at h
    omega

theorem enc_le (z : Int) : 1 ≤ (enc z).length ∧ (enc z).length ≤ 4 := by
  obtain ⟨a, t, e, _, ht, _⟩ := enc_ok z
  rw [e]; simp; omega

theorem bytesOf_le : ∀ l : List Int, (bytesOf l).length ≤ 4 * l.length
  | [] => by simp [bytesOf]
  | z :: l => by
    have := bytesOf_le l
    have := (enc_le z).2
    rw [bytesOf_cons, List.length_append, List.length_cons]; omega

theorem blen_le (l : List Int) (i : Nat) : blen l i ≤ 4 * i := by
  have := bytesOf_le (l.take i)
  have := List.length_take_le i l
  unfold blen; omega

theorem bytesOf_snoc (l : List Int) (k : Nat) (h : k < l.length) : bytesOf (l.take (k + 1)) = bytesOf (l.take k) ++ enc (l.getD k 0) := by
  have e : l.getD k 0 = l[k] := by simp [h]
  rw [List.take_succ_eq_append_getElem h, e]
  unfold bytesOf
  rw [List.flatMap_append]
  simp only [List.flatMap_cons, List.flatMap_nil, List.append_nil]

theorem byteAt_list (l : List UInt8) (j : Nat) : byteAt ⟨l.toArray⟩ j = ((l.getD j 0).toNat : Int) := by
  unfold byteAt
  have hs : (⟨l.toArray⟩ : ByteArray).size = l.length := by simp [ByteArray.size]
  by_cases h : j < l.length
  · rw [dif_pos (by rw [hs]; exact h)]
    have : (⟨l.toArray⟩ : ByteArray)[j]'(by rw [hs]; exact h) = l[j] := by simp [ByteArray.getElem_eq_getElem_data]
    rw [this]; simp [h]
  · rw [dif_neg (by rw [hs]; exact h)]; simp [h]

/-- THE PLAIN LAW. -/
theorem cut_best (l : List Int) (n k best : Nat) (hn : n < (bytesOf l).length) (hk : HeadAt ⟨(bytesOf l).toArray⟩ n k)
    (hb1 : best ≤ n) (hb2 : ∃ i, i ≤ l.length ∧ best = blen l i) (hb3 : ∀ i, i ≤ l.length → blen l i ≤ n → blen l i ≤ best) : best = k := by
  have hc : ∀ j, contB (byteAt ⟨(bytesOf l).toArray⟩ j) = c8 (bytesOf l) j := fun j => by rw [byteAt_list]; rfl
  unfold HeadAt at hk
  simp only [hc] at hk
  obtain ⟨i, h1, h2, h3, h4, h5⟩ := find_char l n hn
  obtain ⟨i2, g1, rfl⟩ := hb2
  have g2 := starts l i2 g1 (by omega)
  have g3 := hb3 i h1 h2
  have e1 : blen l i2 = blen l i := by
    by_cases hlt : blen l i < blen l i2
    · have := h5 _ hlt hb1
      rw [g2] at this; cases this
    · omega
  rw [e1]
  rcases hk with ⟨k1, k2, k3, k4⟩ | ⟨rfl, k4⟩
  · rcases Nat.lt_trichotomy k (blen l i) with hlt | heq | hgt
    · have := k4 _ hlt h2; rw [h4] at this; cases this
    · exact heq.symm
    · have := h5 _ hgt k1; rw [k3] at this; cases this
  · have := k4 _ h2 h3; rw [h4] at this; cases this

theorem append_any (z : Int) (base : Nat) (v : Value) (n : Nat) (xs : List Value) (w : World) (hown : w.ownsRow base 5 1 v n xs) (hb : base ≤ w.heap.size) (hn : n ≤ 1000000) :
    Calls Yba.prog 9 #[v, .int .i32 (runeOf z)] w (Appended base v n xs w ((enc z).map fun b => (b.toNat : Int))) := by
  rcases (show z % 5 = 0 ∨ z % 5 = 1 ∨ z % 5 = 2 ∨ z % 5 = 3 ∨ z % 5 = 4 by omega) with h | h | h | h | h
  · rw [show runeOf z = 97 by simp [runeOf, h], show enc z = [97] by simp [enc, h]]
    exact append_97 base v n xs w hown hb hn
  · rw [show runeOf z = 233 by simp [runeOf, h], show enc z = [195, 169] by simp [enc, h]]
    exact append_233 base v n xs w hown hb hn
  · rw [show runeOf z = 8364 by simp [runeOf, h], show enc z = [226, 130, 172] by simp [enc, h]]
    exact append_8364 base v n xs w hown hb hn
  · rw [show runeOf z = 128512 by simp [runeOf, h], show enc z = [240, 159, 152, 128] by simp [enc, h]]
    exact append_128512 base v n xs w hown hb hn
  · rw [show runeOf z = 122 by simp [runeOf, h], show enc z = [122] by simp [enc, h]]
    exact append_122 base v n xs w hown hb hn
end Go.Proofs.Ybulkatiq.Clip
