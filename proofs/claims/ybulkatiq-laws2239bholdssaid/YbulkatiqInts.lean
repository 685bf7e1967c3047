/-
  Rows of int32: BinarySearch.
-/
import Derived.Test.YbulkatiqWell
namespace Go.Proofs.Ybulkatiq
open Go.ChangeShapes Go.WideShapes Go.ChangeAt Go.RowKit Go.Maps Go.WideMaps

/-- A list of numbers, as it lies behind a slice of int32. -/
def IntsAt (w : World) (v : Value) (l : List Nat) : Prop :=
  ∃ a cap, v = .slice a l.length cap ∧ l.length ≤ cap ∧ (l = [] ∨ ∃ b off cur, a = some ⟨b, off, none⟩ ∧ w.heap[b]? = some (.cells cur 21 (0, 0)) ∧ ∀ i x, l[i]? = some x → w.cell? ⟨b, off + i, none⟩ = some (.int .i32 (x : Nat)))

theorem IntsAt.below {w w' : World} {v : Value} {l : List Nat} (h : IntsAt w v l) (hb : Below w.heap.size w w') : IntsAt w' v l := by
  obtain ⟨a, cap, hv, hc, h⟩ := h
  refine ⟨a, cap, hv, hc, ?_⟩
  rcases h with h | ⟨b, off, cur, ha, hk, h⟩
  · exact .inl h
  · exact .inr ⟨b, off, cur, ha, (hb.block b (lt_of_block hk)).trans hk, fun i x hx => (hb.cell (block_lt_of_cell (h i x hx))).trans (h i x hx)⟩

theorem IntsAt.shape {w : World} {v : Value} {l : List Nat} (h : IntsAt w v l) : ∃ a cap, v = .slice a l.length cap := by
  obtain ⟨a, cap, hv, _⟩ := h
  exact ⟨a, cap, hv⟩

/-- A store into a block of another kind of elements. -/
theorem IntsAt.kept {w w' : World} {v : Value} {l : List Nat} {p : Nat} {cs : Array Value} {t : TypeId} (h : IntsAt w v l) (hg : w.grownBy w' (some p)) (hp : w.heap[p]? = some (.cells cs t (0, 0))) (ht : t ≠ 21) : IntsAt w' v l := by
  obtain ⟨a, cap, hv, hc, h⟩ := h
  refine ⟨a, cap, hv, hc, ?_⟩
  rcases h with h | ⟨b, off, cur, ha, hk, h⟩
  · exact .inl h
  · have hne : some b ≠ some p := fun e => by
      simp only [Option.some.injEq] at e
      rw [e, hp] at hk
      simp at hk
      exact ht hk.2
    have hb := (hg.block b (lt_of_block hk) hne)
    refine .inr ⟨b, off, cur, ha, hb.trans hk, fun i q hq => ?_⟩
    have := h i q hq
    unfold World.cell? at this ⊢
    rw [hb]
    exact this

def Incr (l : List Nat) : Prop := ∀ (i j x y : Nat), i < j → l[i]? = some x → l[j]? = some y → x < y

set_option maxRecDepth 100000 in
theorem nan48 (x : Int) (w : World) : Calls Yba.prog 48 #[.int .i32 x] w fun e w' => e = .returned (.bool false) ∧ w = w' := by
  go_enter Yba.func48, Yba.ntmps48
  go_wp2
  go_ret
  exact ⟨rfl, rfl⟩

set_option maxRecDepth 100000 in
theorem less47 (x y : Int) (w : World) : Calls Yba.prog 47 #[.int .i32 x, .int .i32 y] w fun e w' => e = .returned (.bool (decide (x < y))) ∧ w = w' := by
  go_enter Yba.func47, Yba.ntmps47
  cases h : decide (x < y)
  · go_wp2_with (first | (go_at_call 53; refine (nan53 _ _).mono ?_; rintro e w' ⟨rfl, rfl⟩))
    go_ret
    exact ⟨rfl, rfl⟩
  · go_wp2_with (first | (go_at_call 53; refine (nan53 _ _).mono ?_; rintro e w' ⟨rfl, rfl⟩))
    go_ret
    exact ⟨rfl, rfl⟩

/-- What the binary search leaves. -/
def FindPost (w : World) (l : List Nat) (x : Nat) (e : Ending) (w' : World) : Prop :=
  ∃ (i : Nat) (f : Bool), e = .returned (.tuple #[.int .i64 i, .bool f]) ∧ (f = true ↔ x ∈ l) ∧ w' = w

set_option maxRecDepth 100000 in
set_option maxHeartbeats 800000 in
theorem find31 {w : World} {v : Value} {l : List Nat} (h : IntsAt w v l) (hs : Incr l) (hn : l.length ≤ 1024) (x : Nat) :
    Calls Yba.prog 31 #[v, .int .i32 x] w (FindPost w l x) := by
  obtain ⟨a, cap, rfl, hc, h⟩ := h
  rcases h with rfl | ⟨b, off, cur, rfl, _, h⟩
  · clear hs hn
    go_enter Yba.func31, Yba.ntmps31
    go_wp2_with fail
    refine wp_loop_rounds 1 ?_
    rw [rounds_succ]
    go_wp2_with fail
    go_ret2
    exact ⟨0, false, rfl, by simp, rfl⟩
  have HC := hid h
  have HS := hid hs
  clear h hs
  go_enter Yba.func31, Yba.ntmps31
  go_wp2_with fail
  go_loop [7, 8] (fun vi vj => ∃ i j : Nat, i ≤ j ∧ j ≤ l.length ∧ vi = .int .i64 i ∧ vj = .int .i64 j ∧ (∀ m y : Nat, m < i → l[m]? = some y → y < x) ∧ (∀ m y : Nat, j ≤ m → l[m]? = some y → x ≤ y)) (fun vi vj => (intOf vj).toNat - (intOf vi).toNat)
  case atStart => exact ⟨0, l.length, by omega, by omega, rfl, rfl, fun m p hm => by omega, fun m p hm hp => by have := (List.getElem?_eq_some_iff.1 hp).1; omega⟩
  case round =>
    obtain ⟨i, j, hij, hjl, rfl, rfl, hlo, hhi⟩ := hrel
    have HLO := hid hlo
    have HHI := hid hhi
    clear hlo hhi
    rcases Nat.lt_or_ge i j with hlt | hge
    · have t1 : (i : Int) < (j : Int) := by omega
      obtain ⟨p, hp⟩ : ∃ p, l[(i + j) / 2]? = some p := ⟨l[(i + j) / 2]'(by omega), by simp [show (i + j) / 2 < l.length by omega]⟩
      have c0 := HC.out _ p hp
      have HP := hid hp
      clear hp
      have e2 : ((i : Int) + (j : Int)) / 2 = ((((i + j) / 2 : Nat)) : Int) := by omega
      have E2 := hid e2
      clear e2
      by_cases hlx : (p : Int) < (x : Int)
      · have hd : decide ((p : Int) < (x : Int)) = true := by simpa using hlx
        have HK := hid (show ∀ m y : Nat, m < (i + j) / 2 + 1 → l[m]? = some y → y < x from fun m q hm hq => by
          rcases Nat.lt_or_ge m ((i + j) / 2) with h1 | h1
          · have := HS.out m _ q p h1 hq HP.out
            omega
          · have : m = (i + j) / 2 := by omega
            subst this
            rw [HP.out] at hq
            simp only [Option.some.injEq] at hq
            subst hq
            omega)
        go_wp2_with (go_at_call 47; refine (less47 _ _ _).mono ?_; rintro e w' ⟨rfl, rfl⟩)
        refine ⟨⟨(i + j) / 2 + 1, j, by omega, hjl, by rw [E2.out]; rfl, rfl, HK.out, HHI.out⟩, by simp [intOf]; omega⟩
      · have HK := hid (show ∀ m y : Nat, (i + j) / 2 ≤ m → l[m]? = some y → x ≤ y from fun m q hm hq => by
          rcases Nat.lt_or_ge ((i + j) / 2) m with h1 | h1
          · have := HS.out _ m p q h1 HP.out hq
            omega
          · have : m = (i + j) / 2 := by omega
            subst this
            rw [HP.out] at hq
            simp only [Option.some.injEq] at hq
            subst hq
            omega)
        have hd : decide ((p : Int) < (x : Int)) = false := by simpa using hlx
        go_wp2_with (go_at_call 47; refine (less47 _ _ _).mono ?_; rintro e w' ⟨rfl, rfl⟩)
        refine ⟨⟨i, (i + j) / 2, by omega, by omega, rfl, by rw [E2.out], HLO.out, HK.out⟩, by simp [intOf]; omega⟩
    · have : i = j := by omega
      subst this
      have t1 : ¬ (i : Int) < (i : Int) := by omega
      rcases Nat.lt_or_ge i l.length with hlt | hge2
      · have t2 : (i : Int) < (l.length : Int) := by omega
        obtain ⟨p, hp⟩ : ∃ p, l[i]? = some p := ⟨l[i]'(by omega), by simp [show i < l.length by omega]⟩
        have c0 := HC.out _ p hp
        have HP := hid hp
        clear hp
        cases g : ((p : Int) == (x : Int))
        · go_wp2_with (go_at_call 48; refine (nan48 _ _).mono ?_; rintro e w' ⟨rfl, rfl⟩)
          go_ret2
          refine ⟨i, false, rfl, ⟨(fun h => by cases h), fun hx => ?_⟩, rfl⟩
          exfalso
          obtain ⟨m, hm, e⟩ := List.getElem_of_mem hx
          have hm' : l[m]? = some x := by rw [← e]; simp [hm]
          have hpx : p ≠ x := fun e => by simp [e] at g
          rcases Nat.lt_trichotomy m i with h1 | h1 | h1
          · have := HLO.out m x h1 hm'; omega
          · subst h1; rw [HP.out] at hm'; simp only [Option.some.injEq] at hm'; exact hpx hm'
          · have h2 := HS.out i m p x h1 HP.out hm'
            have h3 := HHI.out i p (Nat.le_refl _) HP.out
            omega
        · go_wp2_with fail
          go_ret2
          have hpx : p = x := by have := beq_iff_eq.1 g; omega
          exact ⟨i, true, rfl, ⟨fun _ => hpx ▸ List.mem_of_getElem? HP.out, fun _ => rfl⟩, rfl⟩
      · have : i = l.length := by omega
        subst this
        have t2 : ¬ (l.length : Int) < (l.length : Int) := by omega
        go_wp2_with fail
        go_ret2
        refine ⟨l.length, false, rfl, ⟨(fun h => by cases h), fun hx => ?_⟩, rfl⟩
        exfalso
        obtain ⟨m, hm, e⟩ := List.getElem_of_mem hx
        have := HLO.out m x hm (by rw [← e]; simp [hm])
        omega
end Go.Proofs.Ybulkatiq
