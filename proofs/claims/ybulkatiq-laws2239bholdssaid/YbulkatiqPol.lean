/-
  The rows of a relation: comparisons, the binary search, a row's cell at a class.
-/
import Derived.Test.YbulkatiqRows
import Derived.WalkKit
import Derived.ProofKit
import Derived.OpenShut
import Derived.WalkSpells
import Derived.WalkLawsBesides
import Derived.BigQuiet
import Derived.Deep.QuietTactic
import Derived.Deep.CutBlock
import Derived.Deep.DeepCutAuto
import Derived.WalkSmall
import Derived.Stop.CallBack
namespace Go.Proofs.Ybulkatiq
open Go.ChangeShapes Go.WideShapes Go.ChangeAt Go.RowKit

theorem hid {p : Prop} (h : p) : Hid p := h

def cmpI (x y : Int) : Int := if x < y then -1 else if y < x then 1 else 0

set_option maxRecDepth 100000 in
theorem nan53 (x : Int) (w : World) : Calls Yba.prog 53 #[.int .i32 x] w fun e w' => e = .returned (.bool false) ∧ w = w' := by
  go_enter Yba.func53, Yba.ntmps53
  go_wp2
  go_ret
  exact ⟨rfl, rfl⟩

set_option maxRecDepth 100000 in
theorem nan52 (x : Int) (w : World) : Calls Yba.prog 52 #[.int .u8 x] w fun e w' => e = .returned (.bool false) ∧ w = w' := by
  go_enter Yba.func52, Yba.ntmps52
  go_wp2
  go_ret
  exact ⟨rfl, rfl⟩

set_option maxRecDepth 100000 in
theorem compare46 (x y : Int) (w : World) : Calls Yba.prog 46 #[.int .i32 x, .int .i32 y] w fun e w' => e = .returned (.int .i64 (cmpI x y)) ∧ w = w' := by
  unfold cmpI
  go_enter Yba.func46, Yba.ntmps46
  by_cases h : x < y
  · rw [if_pos h]
    go_wp2_with (go_at_call 53; refine (nan53 _ _).mono ?_; rintro e w' ⟨rfl, rfl⟩)
    go_ret
    exact ⟨rfl, rfl⟩
  · rw [if_neg h]
    by_cases h2 : y < x
    · rw [if_pos h2]
      go_wp2_with (go_at_call 53; refine (nan53 _ _).mono ?_; rintro e w' ⟨rfl, rfl⟩)
      go_ret
      exact ⟨rfl, rfl⟩
    · rw [if_neg h2]
      go_wp2_with (go_at_call 53; refine (nan53 _ _).mono ?_; rintro e w' ⟨rfl, rfl⟩)
      go_ret
      exact ⟨rfl, rfl⟩

set_option maxRecDepth 100000 in
theorem compare37 (x y : Int) (w : World) : Calls Yba.prog 37 #[.int .u8 x, .int .u8 y] w fun e w' => e = .returned (.int .i64 (cmpI x y)) ∧ w = w' := by
  unfold cmpI
  go_enter Yba.func37, Yba.ntmps37
  by_cases h : x < y
  · rw [if_pos h]
    go_wp2_with (go_at_call 52; refine (nan52 _ _).mono ?_; rintro e w' ⟨rfl, rfl⟩)
    go_ret
    exact ⟨rfl, rfl⟩
  · rw [if_neg h]
    by_cases h2 : y < x
    · rw [if_pos h2]
      go_wp2_with (go_at_call 52; refine (nan52 _ _).mono ?_; rintro e w' ⟨rfl, rfl⟩)
      go_ret
      exact ⟨rfl, rfl⟩
    · rw [if_neg h2]
      go_wp2_with (go_at_call 52; refine (nan52 _ _).mono ?_; rintro e w' ⟨rfl, rfl⟩)
      go_ret
      exact ⟨rfl, rfl⟩

set_option maxRecDepth 100000 in
theorem atCmp (c x l : Int) (w : World) : Calls Yba.prog 45 #[.agg #[.int .i32 c, .int .u8 x], .int .i32 l] w fun e w' => e = .returned (.int .i64 (cmpI c l)) ∧ w' = w.alloc (.cells #[.int .i32 c, .int .u8 x] 55) := by
  go_enter Yba.func45, Yba.ntmps45
  go_wp2_with (go_at_call 46; refine (compare46 _ _ _).mono ?_; rintro e w' ⟨rfl, rfl⟩)
  go_ret
  exact ⟨rfl, rfl⟩

/-- A list of classes with their cells, as it lies behind a slice. -/
def DiffAt (w : World) (v : Value) (l : List (Nat × Nat)) : Prop :=
  ∃ a cap, v = .slice a l.length cap ∧ l.length ≤ cap ∧ (l = [] ∨ ∃ b off cur, a = some ⟨b, off, none⟩ ∧ w.heap[b]? = some (.cells cur 55 (0, 0)) ∧ ∀ i p, l[i]? = some p → w.cell? ⟨b, off + i * 2, none⟩ = some (.int .i32 (p.1 : Int)) ∧ w.cell? ⟨b, off + i * 2 + 1, none⟩ = some (.int .u8 (p.2 : Int)))

theorem DiffAt.below {w w' : World} {v : Value} {l : List (Nat × Nat)} (h : DiffAt w v l) (hb : Below w.heap.size w w') : DiffAt w' v l := by
  obtain ⟨a, cap, hv, hc, h⟩ := h
  refine ⟨a, cap, hv, hc, ?_⟩
  rcases h with h | ⟨b, off, cur, ha, hk, h⟩
  · exact .inl h
  · exact .inr ⟨b, off, cur, ha, (hb.block b (lt_of_block hk)).trans hk, fun i p hp => ⟨(hb.cell (block_lt_of_cell (h i p hp).1)).trans (h i p hp).1, (hb.cell (block_lt_of_cell (h i p hp).2)).trans (h i p hp).2⟩⟩

/-- A store into a block of another kind of elements. -/
theorem DiffAt.kept {w w' : World} {v : Value} {l : List (Nat × Nat)} {p : Nat} {cs : Array Value} {t : TypeId} (h : DiffAt w v l) (hg : w.grownBy w' (some p)) (hp : w.heap[p]? = some (.cells cs t (0, 0))) (ht : t ≠ 55) : DiffAt w' v l := by
  obtain ⟨a, cap, hv, hc, h⟩ := h
  refine ⟨a, cap, hv, hc, ?_⟩
  rcases h with h | ⟨b, off, cur, ha, hk, h⟩
  · exact .inl h
  · have hne : some b ≠ some p := fun e => by
      simp only [Option.some.injEq] at e
      rw [e, hp] at hk
      simp at hk
      exact ht hk.2
    have hb := (hg.block b (lt_of_block hk) hne)
    refine .inr ⟨b, off, cur, ha, hb.trans hk, fun i q hq => ?_⟩
    have := h i q hq
    unfold World.cell? at this ⊢
    rw [hb]
    exact this

theorem below_le {a b : Nat} {w w' : World} (h : Below b w w') (hab : a ≤ b) : Below a w w' := ⟨h.os, h.tape, h.output, h.size, fun k hk => h.block k (Nat.lt_of_lt_of_le hk hab)⟩

/-- The classes stand in ascending order. -/
def Asc (l : List (Nat × Nat)) : Prop := ∀ (i j : Nat) (p q : Nat × Nat), i < j → l[i]? = some p → l[j]? = some q → p.1 < q.1

/-- What the binary search leaves. -/
def SearchPost (w : World) (l : List (Nat × Nat)) (x : Nat) (e : Ending) (w' : World) : Prop :=
  ∃ (i : Nat) (f : Bool), e = .returned (.tuple #[.int .i64 i, .bool f]) ∧ (f = true → ∃ p : Nat × Nat, l[i]? = some p ∧ p.1 = x) ∧ (f = false → ∀ (m : Nat) (p : Nat × Nat), l[m]? = some p → p.1 ≠ x) ∧ Below w.heap.size w w'

set_option maxRecDepth 100000 in
set_option maxHeartbeats 800000 in
theorem search44 {w : World} {v : Value} {l : List (Nat × Nat)} (h : DiffAt w v l) (hs : Asc l) (hn : l.length ≤ 1024) (x : Nat) :
    Calls Yba.prog 44 #[v, .int .i32 x, .func (.func 45) #[] #[]] w (SearchPost w l x) := by
  obtain ⟨a, cap, rfl, hc, h⟩ := h
  rcases h with rfl | ⟨b, off, cur, rfl, _, h⟩
  · clear hs hn
    go_enter Yba.func44, Yba.ntmps44
    go_wp2_with fail
    refine wp_loop_rounds 1 ?_
    rw [rounds_succ]
    go_wp2_with fail
    go_ret2
    exact ⟨0, false, rfl, (fun h => absurd h (by decide)), (fun _ m p hp => absurd hp (by simp)), Below.refl _ _⟩
  have HC := hid h
  have HS := hid hs
  clear h hs
  go_enter Yba.func44, Yba.ntmps44
  go_wp2_with fail
  go_loopw [9, 10] (fun vi vj wr => ∃ i j : Nat, i ≤ j ∧ j ≤ l.length ∧ vi = .int .i64 i ∧ vj = .int .i64 j ∧ (∀ (m : Nat) (p : Nat × Nat), m < i → l[m]? = some p → p.1 < x) ∧ (∀ (m : Nat) (p : Nat × Nat), j ≤ m → l[m]? = some p → x ≤ p.1) ∧ Below w.heap.size w wr) (fun vi vj _ => (intOf vj).toNat - (intOf vi).toNat)
  case atStart => exact ⟨0, l.length, by omega, by omega, rfl, rfl, fun m p hm => by omega, fun m p hm hp => by have := (List.getElem?_eq_some_iff.1 hp).1; omega, Below.refl _ _⟩
  case round =>
    obtain ⟨i, j, hij, hjl, rfl, rfl, hlo, hhi, hb⟩ := hrel
    have HLO := hid hlo
    have HHI := hid hhi
    have HB := hid hb
    clear hlo hhi
    rcases Nat.lt_or_ge i j with hlt | hge
    · have t1 : (i : Int) < (j : Int) := by omega
      obtain ⟨p, hp⟩ : ∃ p, l[(i + j) / 2]? = some p := ⟨l[(i + j) / 2]'(by omega), by simp [show (i + j) / 2 < l.length by omega]⟩
      have c0 := (hb.cell (block_lt_of_cell (HC.out _ p hp).1)).trans (HC.out _ p hp).1
      have c1 := (hb.cell (block_lt_of_cell (HC.out _ p hp).2)).trans (HC.out _ p hp).2
      have HP := hid hp
      clear hp hb
      have HB2 := hid (HB.out.alloc HB.out.size (.cells #[.int .i32 (p.1 : Int), .int .u8 (p.2 : Int)] 55))
      have e2 : ((i : Int) + (j : Int)) / 2 = ((((i + j) / 2 : Nat)) : Int) := by omega
      by_cases hlx : (p.1 : Int) < (x : Int)
      · have hc1 : cmpI (p.1 : Int) (x : Int) < 0 := by unfold cmpI; rw [if_pos hlx]; decide
        have HK := hid (show ∀ (m : Nat) (q : Nat × Nat), m < (i + j) / 2 + 1 → l[m]? = some q → q.1 < x from fun m q hm hq => by
          rcases Nat.lt_or_ge m ((i + j) / 2) with h1 | h1
          · have := HS.out m _ q p h1 hq HP.out
            omega
          · have : m = (i + j) / 2 := by omega
            subst this
            rw [HP.out] at hq
            simp only [Option.some.injEq] at hq
            subst hq
            omega)
        clear hlx
        have E2 := hid e2
        clear e2
        go_wp2_with (go_at_call 45; refine (atCmp _ _ _ _).mono ?_; rintro e w' ⟨rfl, rfl⟩)
        go_roundw
        case rel => exact ⟨(i + j) / 2 + 1, j, by omega, hjl, by rw [E2.out]; rfl, rfl, HK.out, HHI.out, HB2.out⟩
        case measure => simp [intOf]; omega
      · have hc1 : ¬ cmpI (p.1 : Int) (x : Int) < 0 := by unfold cmpI; rw [if_neg hlx]; split <;> decide
        have HK := hid (show ∀ (m : Nat) (q : Nat × Nat), (i + j) / 2 ≤ m → l[m]? = some q → x ≤ q.1 from fun m q hm hq => by
          rcases Nat.lt_or_ge ((i + j) / 2) m with h1 | h1
          · have := HS.out _ m p q h1 HP.out hq
            omega
          · have : m = (i + j) / 2 := by omega
            subst this
            rw [HP.out] at hq
            simp only [Option.some.injEq] at hq
            subst hq
            omega)
        clear hlx
        have E2 := hid e2
        clear e2
        go_wp2_with (go_at_call 45; refine (atCmp _ _ _ _).mono ?_; rintro e w' ⟨rfl, rfl⟩)
        go_roundw
        case rel => exact ⟨i, (i + j) / 2, by omega, by omega, rfl, by rw [E2.out], HLO.out, HK.out, HB2.out⟩
        case measure => simp [intOf]; omega
    · have : i = j := by omega
      subst this
      have t1 : ¬ (i : Int) < (i : Int) := by omega
      rcases Nat.lt_or_ge i l.length with hlt | hge2
      · have t2 : (i : Int) < (l.length : Int) := by omega
        obtain ⟨p, hp⟩ : ∃ p, l[i]? = some p := ⟨l[i]'(by omega), by simp [show i < l.length by omega]⟩
        have c0 := (hb.cell (block_lt_of_cell (HC.out _ p hp).1)).trans (HC.out _ p hp).1
        have c1 := (hb.cell (block_lt_of_cell (HC.out _ p hp).2)).trans (HC.out _ p hp).2
        have HP := hid hp
        clear hp hb
        have HB2 := hid (HB.out.alloc HB.out.size (.cells #[.int .i32 (p.1 : Int), .int .u8 (p.2 : Int)] 55))
        go_wp2_with (go_at_call 45; refine (atCmp _ _ _ _).mono ?_; rintro e w' ⟨rfl, rfl⟩)
        go_ret2
        refine ⟨i, _, rfl, (fun h => ⟨p, HP.out, ?_⟩), (fun h m q hq he => ?_), HB2.out⟩
        · unfold cmpI at h
          split at h
          · cases h
          · split at h
            · cases h
            · omega
        · have hne : ¬ p.1 = x := by
            intro e
            rw [e] at h
            simp [cmpI] at h
          rcases Nat.lt_trichotomy m i with h1 | h1 | h1
          · have := HLO.out m q h1 hq
            omega
          · subst h1
            rw [HP.out] at hq
            simp only [Option.some.injEq] at hq
            subst hq
            exact hne he
          · have h2 := HS.out i m p q h1 HP.out hq
            have h3 := HHI.out i p (Nat.le_refl _) HP.out
            omega
      · have : i = l.length := by omega
        subst this
        have t2 : ¬ (l.length : Int) < (l.length : Int) := by omega
        clear hb
        go_wp2_with fail
        go_ret2
        refine ⟨l.length, false, rfl, (fun h => absurd h (by decide)), (fun _ m q hq he => ?_), HB.out⟩
        have hm := (List.getElem?_eq_some_iff.1 hq).1
        have := HLO.out m q hm hq
        omega
/-- A row's cell at a class. -/
def atL (c : Nat) (l : List (Nat × Nat)) (x : Nat) : Nat := match l.find? (fun p => p.1 == x) with
  | none => c
  | some p => p.2

theorem atL_some {c : Nat} {l : List (Nat × Nat)} {x : Nat} {i : Nat} {p : Nat × Nat} (hs : Asc l) (hp : l[i]? = some p) (hx : p.1 = x) : atL c l x = p.2 := by
  unfold atL
  cases h : l.find? (fun p => p.1 == x) with
  | none =>
    rw [List.find?_eq_none] at h
    have := h p (List.mem_of_getElem? hp)
    simp [hx] at this
  | some q =>
    have hq := List.find?_some h
    have hm := List.mem_of_find?_eq_some h
    obtain ⟨j, hj, hjq⟩ := List.getElem_of_mem hm
    have hj' : l[j]? = some q := by rw [← hjq]; simp [hj]
    simp only [beq_iff_eq] at hq
    rcases Nat.lt_trichotomy i j with h1 | h1 | h1
    · have := hs i j p q h1 hp hj'; omega
    · subst h1
      rw [hp] at hj'
      simp only [Option.some.injEq] at hj'
      subst hj'
      rfl
    · have := hs j i q p h1 hj' hp; omega

theorem atL_none {c : Nat} {l : List (Nat × Nat)} {x : Nat} (h : ∀ (m : Nat) (p : Nat × Nat), l[m]? = some p → p.1 ≠ x) : atL c l x = c := by
  unfold atL
  have : l.find? (fun p => p.1 == x) = none := by
    rw [List.find?_eq_none]
    intro p hp
    obtain ⟨j, hj, hjq⟩ := List.getElem_of_mem hp
    have := h j p (by rw [← hjq]; simp [hj])
    simpa using this
  rw [this]

set_option maxRecDepth 100000 in
set_option maxHeartbeats 800000 in
theorem at28 {w : World} {v : Value} {l : List (Nat × Nat)} (h : DiffAt w v l) (hs : Asc l) (hn : l.length ≤ 1024) (c x : Nat) :
    Calls Yba.prog 28 #[.agg #[.int .u8 c, v], .int .i32 x] w fun e w' => e = .returned (.int .u8 (atL c l x)) ∧ Below w.heap.size w w' := by
  have HD := hid (h.below ((Below.refl w.heap.size w).alloc (Nat.le_refl _) (.cells #[.int .u8 c, v] 57)))
  have HB := hid ((Below.refl w.heap.size w).alloc (Nat.le_refl _) (.cells #[.int .u8 c, v] 57))
  have HS := hid hs
  obtain ⟨a, cap, rfl, hc, h⟩ := h
  clear hs h
  go_enter Yba.func28, Yba.ntmps28
  go_wp2_with fail
  refine (search44 HD.out HS.out hn x).mono ?_
  rintro e w' ⟨i, f, rfl, ht, hf, hb⟩
  have HB2 := hid (HB.out.trans (below_le hb (by simp)))
  have k0 : w'.cell? ⟨w.heap.size, 0, none⟩ = some (.int .u8 c) := (hb.cell (by simp)).trans (by go_simp)
  have k1 : w'.cell? ⟨w.heap.size, 1, none⟩ = some (.slice a l.length cap) := (hb.cell (by simp)).trans (by go_simp)
  cases f
  · have HR := hid (atL_none (c := c) (hf rfl))
    clear ht hf
    go_wp2_with fail
    go_ret
    exact ⟨by rw [HR.out]; rfl, HB2.out⟩
  · obtain ⟨p, hp, hx⟩ := ht rfl
    have HR := hid (atL_some (c := c) HS.out hp hx)
    obtain ⟨a', cap', e', _, hd⟩ := HD.out.below hb
    have hil := (List.getElem?_eq_some_iff.1 hp).1
    rcases hd with rfl | ⟨b, off, cur, rfl, _, hd⟩
    · simp at hp
    · simp only [Value.slice.injEq] at e'
      obtain ⟨rfl, _, rfl⟩ := e'
      have c1 := (hd i p hp).2
      have t1 : (i : Int) < (l.length : Int) := by omega
      clear ht hf hd hp hx
      go_wp2_with fail
      go_ret
      exact ⟨by rw [HR.out]; rfl, HB2.out⟩
end Go.Proofs.Ybulkatiq
