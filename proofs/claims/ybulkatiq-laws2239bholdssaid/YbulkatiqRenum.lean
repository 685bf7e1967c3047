/-
  renumbered.
-/
import Derived.Test.YbulkatiqRange
namespace Go.Proofs.Ybulkatiq
open Go.ChangeShapes Go.WideShapes Go.ChangeAt Go.RowKit Go.Maps Go.WideMaps

theorem makeMap_hint43 (w : World) (n : Nat) (h : n ≤ 4096) : (Instr.makeMap 43 (some (.int .i64 (n : Int)))).run Yba.prog w = .ok (.map (some w.heap.size)) (w.alloc (.map #[] 0)) := by
  have h1 : ¬ ((n : Int) < 0) := by omega
  simp [Instr.makeMap, go_sem, asInt, asIntOf, Yba.underlying43, underlying]

/-- What renumbered leaves. -/
def RenPost (B : Nat) (w : World) (m : Nat) (of : ByteArray → Nat) (e : Ending) (w' : World) : Prop :=
  ∃ v, e = .returned (.agg #[v, .int .i32 (m : Nat)]) ∧ ClsB B w' v m of ∧ Below w.heap.size w w'

/-- The class that the new map gives a string while the entries 'left' are to come. -/
def renOf (num : List Nat) (of : ByteArray → Nat) (left : Lit → Bool) (s : ByteArray) : Nat := if left (.string s.data.toList) then 0 else num.getD (of s) 0

theorem renOf_strike {num : List Nat} {of : ByteArray → Nat} {left : Lit → Bool} {x : ByteArray} : renOf num of (fun z => left z && !z.sameKey (.string x.data.toList)) x = num.getD (of x) 0 := by
  have h : (Lit.string x.data.toList).sameKey (.string x.data.toList) = true := WideAt.sameKey_self (by simp [WideAt.IsKeyLit])
  simp [renOf, h]
theorem renOf_other {num : List Nat} {of : ByteArray → Nat} {left : Lit → Bool} {x s : ByteArray} (h : s ≠ x) : renOf num of (fun z => left z && !z.sameKey (.string x.data.toList)) s = renOf num of left s := by
  have h : (Lit.string s.data.toList).sameKey (.string x.data.toList) = false := sameKey_ne (fun e => h (ba_inj (by simpa using e)))
  simp [renOf, h]

/-- What the loop of renumbered keeps. -/
structure RN (w wr : World) (bm N0 : Nat) (D : DataW Unit) (num : List Nat) (of : ByteArray → Nat) (m b n : Nat) (left : Lit → Bool) (cnt N : Nat) (D1 : DataW Unit) : Prop where
  bel : Below w.heap.size w wr
  res : wr.heap[w.heap.size + 1]? = some (.cells #[.map none, .int .i32 0] 45 (0, 0))
  str : wr.heap[w.heap.size + 1 + 1]? = some (.cells #[.map (some (w.heap.size + 1 + 1 + 1)), .int .i32 (m : Nat)] 45 (0, 0))
  own : wr.ownsMap Yba.prog 9 (plainElem (H := Unit) Yba.prog 21) (w.heap.size + 1 + 1 + 1) N D1
  rng : wr.ranges Yba.prog 9 (plainElem (H := Unit) Yba.prog 21) bm (w.heap.size + 1 + 1 + 1 + 1) N0 D left cnt
  con : ∀ s : ByteArray, D1.atKey (.string s.data.toList) (.lit (.int .i32 0)) = .lit (.int .i32 (renOf num of left s : Nat))
  cnt : N + cnt ≤ N0
  row : RowD wr b n num

theorem RN.skip {w wr w1 : World} {bm N0 cnt cnt1 N m b n : Nat} {D D1 : DataW Unit} {num : List Nat} {of : ByteArray → Nat} {left : Lit → Bool} {x : ByteArray} (h : RN w wr bm N0 D num of m b n left cnt N D1) (hb : b < w.heap.size)
    (hl : left (.string x.data.toList) = true) (hz : num.getD (of x) 0 = 0) (hrg : w1.ranges Yba.prog 9 (plainElem (H := Unit) Yba.prog 21) bm (w.heap.size + 1 + 1 + 1 + 1) N0 D (fun z => left z && !z.sameKey (.string x.data.toList)) cnt1) (hlt : cnt1 < cnt) (hg : wr.grownBy w1 (some (w.heap.size + 1 + 1 + 1 + 1))) :
    RN w w1 bm N0 D num of m b n (fun z => left z && !z.sameKey (.string x.data.toList)) cnt1 N D1 := by
  refine ⟨h.bel.grown hg h.bel.size (fun k hk => by simp only [Option.some.injEq] at hk; omega), (hg.block _ (lt_of_block h.res) (fun e => by simp only [Option.some.injEq] at e; omega)).trans h.res, (hg.block _ (lt_of_block h.str) (fun e => by simp only [Option.some.injEq] at e; omega)).trans h.str, h.own.kept hg (fun e => by simp only [Option.some.injEq] at e; omega), hrg, fun s => ?_, by have := h.cnt; omega, h.row.other hg (by omega)⟩
  rw [h.con s]
  by_cases e : s = x
  · subst e
    rw [renOf_strike, hz]
    unfold renOf
    rw [hl]
    rfl
  · rw [renOf_other e]

theorem RN.put {w wr w1 w2 : World} {bm N0 cnt cnt1 N m b n : Nat} {D D1 : DataW Unit} {num : List Nat} {of : ByteArray → Nat} {left : Lit → Bool} {x : ByteArray} (h : RN w wr bm N0 D num of m b n left cnt N D1) (hb : b < w.heap.size) (hbm : bm < w.heap.size)
    (hrg : w1.ranges Yba.prog 9 (plainElem (H := Unit) Yba.prog 21) bm (w.heap.size + 1 + 1 + 1 + 1) N0 D (fun z => left z && !z.sameKey (.string x.data.toList)) cnt1) (hlt : cnt1 < cnt) (hg : wr.grownBy w1 (some (w.heap.size + 1 + 1 + 1 + 1)))
    (hown : w2.ownsMap Yba.prog 9 (plainElem (H := Unit) Yba.prog 21) (w.heap.size + 1 + 1 + 1) (N + 1) (D1.put (.string x.data.toList) (.lit (.int .i32 (num.getD (of x) 0 : Nat))))) (hg2 : w1.grownBy w2 (some (w.heap.size + 1 + 1 + 1))) :
    RN w w2 bm N0 D num of m b n (fun z => left z && !z.sameKey (.string x.data.toList)) cnt1 (N + 1) (D1.put (.string x.data.toList) (.lit (.int .i32 (num.getD (of x) 0 : Nat)))) := by
  have b1 := h.bel.grown hg h.bel.size (fun k hk => by simp only [Option.some.injEq] at hk; omega)
  have r1 := (hg.block _ (lt_of_block h.res) (fun e => by simp only [Option.some.injEq] at e; omega)).trans h.res
  have s1 := (hg.block _ (lt_of_block h.str) (fun e => by simp only [Option.some.injEq] at e; omega)).trans h.str
  refine ⟨b1.grown hg2 b1.size (fun k hk => by simp only [Option.some.injEq] at hk; omega), (hg2.block _ (lt_of_block r1) (fun e => by simp only [Option.some.injEq] at e; omega)).trans r1, (hg2.block _ (lt_of_block s1) (fun e => by simp only [Option.some.injEq] at e; omega)).trans s1, hown, hrg.kept hg2 (fun e => by simp only [Option.some.injEq] at e; omega) (fun e => by simp only [Option.some.injEq] at e; omega), fun s => ?_, by have := h.cnt; omega, (h.row.other hg (by omega)).other hg2 (by omega)⟩
  by_cases e : s = x
  · subst e
    rw [renOf_strike]
    exact atKey_put_same h.own.isMap (by simp [WideAt.IsKeyLit]) _ _
  · rw [renOf_other e, atKey_put_other (fun e' => e (ba_inj (by simpa using e')))]
    exact h.con s

theorem ren_start {D : DataW Unit} {num : List Nat} {of : ByteArray → Nat} (h0 : num.getD 0 0 = 0) (hd : ∀ s : ByteArray, D.atKey (.string s.data.toList) (.lit (.int .i32 0)) = .lit (.int .i32 (of s : Nat))) (s : ByteArray) : renOf num of (Maps.has D) s = 0 := by
  unfold renOf
  split
  · rfl
  · rename_i hh
    have e1 := hd s
    rw [atKey_of_not_has (by simpa using hh)] at e1
    simp only [DataW.lit.injEq, Lit.int.injEq, true_and] at e1
    rw [show of s = 0 by omega, h0]

theorem ren_ret {B : Nat} {w wr : World} {tmps : Array Value} (h6 : tmps.getD 6 undef = .pointer (some ⟨w.heap.size + 1, 0, none⟩)) {m : Nat} {of : ByteArray → Nat} {v : Value} (hb : Below w.heap.size w wr) (hr : wr.heap[w.heap.size + 1]? = some (.cells #[.map none, .int .i32 0] 45 (0, 0)))
    (hc : ClsB B wr v m of) (hv : ∀ k, v = .map (some k) → k ≠ w.heap.size + 1) :
    bodyPost Yba.prog Yba.f39 (RenPost B w m of) Exit.ret ⟨tmps, []⟩ ((wr.setCell ⟨w.heap.size + 1, 0, none⟩ v).setCell ⟨w.heap.size + 1, 1, none⟩ (.int .i32 (m : Nat))) := by
  have hg : wr.grownBy ((wr.setCell ⟨w.heap.size + 1, 0, none⟩ v).setCell ⟨w.heap.size + 1, 1, none⟩ (.int .i32 (m : Nat))) (some (w.heap.size + 1)) := grown_setCell (grown_setCell (World.grownBy.refl wr _))
  have hb := hb.grown hg hb.size (fun k hk => by simp only [Option.some.injEq] at hk; omega)
  have h1 := heap_setCell_same wr (w.heap.size + 1) 0 _ 45 v hr
  have h2 := heap_setCell_same _ (w.heap.size + 1) 1 _ 45 (.int .i32 (m : Nat)) h1
  generalize ((wr.setCell ⟨w.heap.size + 1, 0, none⟩ v).setCell ⟨w.heap.size + 1, 1, none⟩ (.int .i32 (m : Nat))) = W at *
  have c0 : W.cell? ⟨w.heap.size + 1, 0, none⟩ = some v := by simp [World.cell?, h2]
  have c1 : W.cell? ⟨w.heap.size + 1, 1, none⟩ = some (.int .i32 (m : Nat)) := by simp [World.cell?, h2]
  have hc2 : ClsB B W v m of := by
    refine ⟨hc.lt, ?_⟩
    rcases hc.shape with h1 | ⟨b, N, D, rfl, ho, hN, hd⟩
    · exact .inl h1
    · exact .inr ⟨b, N, D, rfl, ho.kept hg (fun e => hv b rfl (Option.some.inj e)), hN, hd⟩
  rw [Array.getD_eq_getD_getElem?] at h6
  refine bodyPost_ret (v := .agg #[v, .int .i32 (m : Nat)]) ?_ rfl ⟨v, rfl, hc2, hb⟩
  simp [results, Yba.results39, go_sem, c0, c1, h6]
theorem RN.start {w w0 : World} {bm N0 m b n : Nat} {D : DataW Unit} {num : List Nat} {of : ByteArray → Nat} {c0 : Array Value} (h0 : num.getD 0 0 = 0) (hd : ∀ s : ByteArray, D.atKey (.string s.data.toList) (.lit (.int .i32 0)) = .lit (.int .i32 (of s : Nat))) (hrow : RowD w b n num) (hsz : Maps.size D ≤ N0)
    (hrg : w0.ranges Yba.prog 9 (plainElem (H := Unit) Yba.prog 21) bm (w.heap.size + 1 + 1 + 1 + 1) N0 D (Maps.has D) (Maps.size D)) (hg : ((((w.alloc (.cells c0 45)).alloc (.cells #[.map none, .int .i32 0] 45)).alloc (.cells #[.map (some (w.heap.size + 1 + 1 + 1)), .int .i32 (m : Nat)] 45)).alloc (.map #[] 0)).grownBy w0 none) :
    RN w w0 bm N0 D num of m b n (Maps.has D) (Maps.size D) 0 (.map []) := by
  have h1 := heap_new (w.alloc (.cells c0 45)) (.cells #[.map none, .int .i32 0] 45)
  rw [show (w.alloc (.cells c0 45)).heap.size = w.heap.size + 1 by simp] at h1
  have h2 := heap_new ((w.alloc (.cells c0 45)).alloc (.cells #[.map none, .int .i32 0] 45)) (.cells #[.map (some (w.heap.size + 1 + 1 + 1)), .int .i32 (m : Nat)] 45)
  rw [show ((w.alloc (.cells c0 45)).alloc (.cells #[.map none, .int .i32 0] 45)).heap.size = w.heap.size + 1 + 1 by simp] at h2
  have h3 := World.ownsMap_made (((w.alloc (.cells c0 45)).alloc (.cells #[.map none, .int .i32 0] 45)).alloc (.cells #[.map (some (w.heap.size + 1 + 1 + 1)), .int .i32 (m : Nat)] 45)) Yba.prog 9 (plainElem (H := Unit) Yba.prog 21)
  rw [show (((w.alloc (.cells c0 45)).alloc (.cells #[.map none, .int .i32 0] 45)).alloc (.cells #[.map (some (w.heap.size + 1 + 1 + 1)), .int .i32 (m : Nat)] 45)).heap.size = w.heap.size + 1 + 1 + 1 by simp] at h3
  have hb : Below w.heap.size w ((((w.alloc (.cells c0 45)).alloc (.cells #[.map none, .int .i32 0] 45)).alloc (.cells #[.map (some (w.heap.size + 1 + 1 + 1)), .int .i32 (m : Nat)] 45)).alloc (.map #[] 0)) := ((((Below.refl _ _).alloc (Nat.le_refl _) _).alloc (by simp) _).alloc (by simp; omega) _).alloc (by simp; omega) _
  have h1' := heap_old (o := .map #[] 0) (heap_old (o := .cells #[.map (some (w.heap.size + 1 + 1 + 1)), .int .i32 (m : Nat)] 45) h1)
  have h2' := heap_old (o := .map #[] 0) h2
  have hb0 := hb.grown hg hb.size (fun k hk => by cases hk)
  exact ⟨hb0, (hg.block _ (lt_of_block h1') (by simp)).trans h1', (hg.block _ (lt_of_block h2') (by simp)).trans h2', h3.kept hg (by simp), hrg, fun s => by rw [ren_start h0 hd s]; rfl, by omega, hrow.below hb0⟩

set_option maxRecDepth 100000 in
set_option maxHeartbeats 1600000 in
theorem renum39 {B : Nat} {w : World} {v : Value} {n m b : Nat} {of : ByteArray → Nat} {num : List Nat} (h : ClsB B w v n of) (hrow : RowD w b n num) (hlt : ∀ k, k < n → num.getD k 0 < m) (h0 : num.getD 0 0 = 0) (hmn : m ≤ n) (hn : n ≤ 16) (hB : B ≤ 4096) :
    Calls Yba.prog 39 #[.agg #[v, .int .i32 (n : Nat)], .slice (some ⟨b, 0, none⟩) n n, .int .i32 (m : Nat)] w (RenPost B w m (fun s => num.getD (of s) 0)) := by
  have hofl : ∀ s, num.getD (of s) 0 < m := fun s => hlt _ (h.lt s)
  have hofn := h.lt
  rcases Nat.lt_or_ge 1 m with hm | hm
  · rcases h.shape with ⟨_, _, hc⟩ | ⟨bm, N0, D, rfl, hown, hN0, hd⟩
    · omega
    · have hszD : Maps.size D ≤ N0 := by
        obtain ⟨es, clock, _, _, hs, rfl⟩ := hown
        unfold Maps.size
        simp [length_sorted]
        exact hs
      have hlen : ∀ W : World, Below w.heap.size w W → ∀ ty, (Builtin.len_ #[43] ty #[.map (some bm)]).run Yba.prog W = .ok (.int .i64 (Maps.size D : Nat)) W := fun W hb ty => by
        obtain ⟨es, clock, h1, h2⟩ := hown
        exact World.ownsMap.len (⟨es, clock, (hb.block bm (lt_of_block h1)).trans h1, h2⟩ : W.ownsMap Yba.prog 9 (plainElem (H := Unit) Yba.prog 21) bm N0 D) Yba.underlying43 ty
      have hmk : ∀ W : World, (Instr.makeMap 43 (some (.int .i64 (Maps.size D : Nat)))).run Yba.prog W = .ok (.map (some W.heap.size)) (W.alloc (.map #[] 0)) := fun W => makeMap_hint43 W _ (by omega)
      have hbm := hown.lt
      have hb := hrow.lt
      have t1 : (1 : Int) < (m : Int) := by omega
      have hlen1 := hlen (((w.alloc (.cells #[.map (some bm), .int .i32 (n : Nat)] 45)).alloc (.cells #[.map none, .int .i32 0] 45)).alloc (.cells #[.map none, .int .i32 (m : Nat)] 45)) ((((Below.refl _ _).alloc (Nat.le_refl _) _).alloc (by simp) _).alloc (by simp; omega) _)
      have hw3 : ((((w.alloc (.cells #[.map (some bm), .int .i32 (n : Nat)] 45)).alloc (.cells #[.map none, .int .i32 0] 45)).alloc (.cells #[.map (some (w.heap.size + 1 + 1 + 1)), .int .i32 (m : Nat)] 45)).alloc (.map #[] 0)).ownsMap Yba.prog 9 (plainElem (H := Unit) Yba.prog 21) bm N0 D := ((((hown.alloc _).alloc _).alloc _).alloc _)
      have e1 : ((((w.alloc (.cells #[.map (some bm), .int .i32 (n : Nat)] 45)).alloc (.cells #[.map none, .int .i32 0] 45)).alloc (.cells #[.map (some (w.heap.size + 1 + 1 + 1)), .int .i32 (m : Nat)] 45)).alloc (.map #[] 0)).heap.size = w.heap.size + 1 + 1 + 1 + 1 := by simp
      have HD := hid hd
      have HROW := hid hrow
      have HL := hid hlt
      clear hd hrow hlen hlt h
      go_enter Yba.func39, Yba.ntmps39
      go_wp2_with (first
        | (at_range; refine wpList_range_own _ rfl _ 43 rfl 9 21 klaw Yba.underlying43 _ bm N0 _ rfl hw3 ?_; intro w0 hrg0 hg0 hs0)
        | go_in)
      go_frame
      rw [e1] at hrg0 hs0 ⊢
      have HS := hid (RN.start (m := m) h0 HD.out HROW.out hszD hrg0 hg0)
      clear hrg0 hg0 hs0 hlen1 hmk hw3 e1 HROW
      go_loopw [8] (fun _ wr => ∃ left cnt N D1, RN w wr bm N0 D num of m b n left cnt N D1) (fun _ wr => wr.rangeLeft bm (w.heap.size + 1 + 1 + 1 + 1))
      case atStart => exact ⟨_, _, _, _, HS.out⟩
      case round =>
        obtain ⟨left, cnt, N, D1, hs⟩ := hrel
        clear HS
        have hrg := hs.rng
        have HS := hid hs
        clear hs
        go_wp2_with (first
          | (at_next; refine next_si rfl _ rfl bm _ N0 _ _ _ rfl hrg of HD.out ?_ ?_)
          | go_in)
        · intro hc0 hl0
          have r0 : wr.cell? ⟨w.heap.size + 1, 0, none⟩ = some (.map none) := by simp [World.cell?, HS.out.res]
          have r1 : wr.cell? ⟨w.heap.size + 1, 1, none⟩ = some (.int .i32 0) := by simp [World.cell?, HS.out.res]
          have rf : ∀ j, wr.frozen? ⟨w.heap.size + 1, j, none⟩ = false := fun j => by simp [World.frozen?, HS.out.res]
          have s0 : wr.cell? ⟨w.heap.size + 1 + 1, 0, none⟩ = some (.map (some (w.heap.size + 1 + 1 + 1))) := by simp [World.cell?, HS.out.str]
          have s1 : wr.cell? ⟨w.heap.size + 1 + 1, 1, none⟩ = some (.int .i32 (m : Nat)) := by simp [World.cell?, HS.out.str]
          have HC := hid (show ClsB B wr (.map (some (w.heap.size + 1 + 1 + 1))) m (fun s => num.getD (of s) 0) from ⟨hofl, .inr ⟨_, N, D1, rfl, HS.out.own, by have := HS.out.cnt; omega, fun s => by rw [HS.out.con s]; unfold renOf; rw [hl0]; rfl⟩⟩)
          clear hl0 hrg
          go_wp2_with fail
          exact ren_ret rfl HS.out.bel HS.out.res HC.out (fun k hk => by simp only [Value.map.injEq, Option.some.injEq] at hk; omega)
        · intro x w1 cnt1 hxs hlx hhx hrg1 hlt1 hg1 hs1 hen
          have hofx := hofn x
          have t2 : ((of x : Nat) : Int) < (n : Int) := by omega
          have hox : num.getD (of x) 0 < m := hofl x
          have c1 := ((HS.out.row.other hg1 (by omega)).at hofx).2
          have hstr := (hg1.block _ (lt_of_block HS.out.str) (fun e => by simp only [Option.some.injEq] at e; omega)).trans HS.out.str
          have s0 : w1.cell? ⟨w.heap.size + 1 + 1, 0, none⟩ = some (.map (some (w.heap.size + 1 + 1 + 1))) := by simp [World.cell?, hstr]
          clear hstr
          have HRG := hid hrg
          cases g : (((num.getD (of x) 0 : Nat) : Int) != 0)
          · have HS1 := hid (HS.out.skip hb hlx (by simpa using g) hrg1 hlt1 hg1)
            clear hlx hhx hrg1 hg1 hs1 hrg
            generalize num.getD (of x) 0 = nv at c1 g
            go_wp2_with fail
            go_roundw
            case rel => exact ⟨_, _, _, _, HS1.out⟩
            case measure => rw [HS1.out.rng.left_eq, HRG.out.left_eq]; exact hlt1
          · obtain ⟨w2, hrun, hown2, hg2⟩ := (HS.out.own.kept hg1 (fun e => by simp only [Option.some.injEq] at e; omega)).update (key := .string x) (val := .int .i32 (num.getD (of x) 0 : Nat)) klaw Yba.underlying43 (by have := HS.out.cnt; unfold maxLen; omega) (keyOf_string_mk Yba.underlying9 hxs) (plainElem_int Yba.underlying21 (wf_i32 (by omega)))
            have HS1 := hid (HS.out.put hb hbm hrg1 hlt1 hg1 hown2 hg2)
            clear hlx hhx hrg1 hg1 hs1 hrg hown2 hg2
            generalize num.getD (of x) 0 = nv at c1 g hrun HS1
            go_wp2_with fail
            go_roundw
            case rel => exact ⟨_, _, _, _, HS1.out⟩
            case measure => rw [HS1.out.rng.left_eq, HRG.out.left_eq]; exact hlt1
  · have hz : ∀ s, num.getD (of s) 0 = 0 := fun s => by have := hofl s; omega
    have hm1 : m = 1 := by have := hofl ByteArray.empty; omega
    subst hm1
    have HC := hid (fun W => (⟨fun s => by rw [hz s]; omega, .inl ⟨rfl, hz, Nat.le_refl _⟩⟩ : ClsB B W (.map none) 1 (fun s => num.getD (of s) 0)))
    clear h hrow hlt h0 hofl hz hofn
    go_enter Yba.func39, Yba.ntmps39
    go_wp2_with fail
    have h1 := heap_new (w.alloc (.cells #[v, .int .i32 (n : Nat)] 45)) (.cells #[.map none, .int .i32 1] 45)
    rw [show (w.alloc (.cells #[v, .int .i32 (n : Nat)] 45)).heap.size = w.heap.size + 1 by simp] at h1
    have h2 := heap_old (o := .cells #[.map none, .int .i32 1] 45) h1
    have hb : Below w.heap.size w (((w.alloc (.cells #[v, .int .i32 (n : Nat)] 45)).alloc (.cells #[.map none, .int .i32 1] 45)).alloc (.cells #[.map none, .int .i32 1] 45)) := (((Below.refl _ _).alloc (Nat.le_refl _) _).alloc (by simp) _).alloc (by simp; omega) _
    generalize ((w.alloc (.cells #[v, .int .i32 (n : Nat)] 45)).alloc (.cells #[.map none, .int .i32 1] 45)).alloc (.cells #[.map none, .int .i32 1] 45) = W at *
    have c0 : W.cell? ⟨w.heap.size + 1, 0, none⟩ = some (.map none) := by simp [World.cell?, h2]
    have c1 : W.cell? ⟨w.heap.size + 1, 1, none⟩ = some (.int .i32 1) := by simp [World.cell?, h2]
    refine bodyPost_ret (v := .agg #[.map none, .int .i32 1]) ?_ rfl ⟨_, rfl, HC.out _, hb⟩
    simp [results, Yba.results39, go_sem, c0, c1]
end Go.Proofs.Ybulkatiq
