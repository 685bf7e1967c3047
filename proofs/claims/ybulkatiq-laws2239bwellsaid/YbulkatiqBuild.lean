/-
  zzs2239bclasses, zzs2239bbuild.
-/
import Derived.Test.YbulkatiqConst
set_option linter.unusedVariables false
set_option linter.unusedSimpArgs false
namespace Go.Proofs.Ybulkatiq
open Go.ChangeShapes Go.WideShapes Go.ChangeAt Go.RowKit Go.Maps Go.WideMaps

/-- A map whose every string lies in a class below m: what a store keeps. -/
structure Own (w : World) (b m N : Nat) (D : DataW Unit) : Prop where
  own : w.ownsMap Yba.prog 9 (plainElem (H := Unit) Yba.prog 21) b N D
  each : ∀ s : ByteArray, ∃ k : Nat, k < m ∧ D.atKey (.string s.data.toList) (.lit (.int .i32 0)) = .lit (.int .i32 k)

theorem Own.cls {w : World} {b m N : Nat} {D : DataW Unit} (h : Own w b m N D) (hN : N ≤ 4) : ∃ of, ClsAt w (.map (some b)) m of :=
  ⟨fun s => (h.each s).choose, fun s => (h.each s).choose_spec.1, .inr ⟨b, N, D, rfl, h.own, hN, fun s => (h.each s).choose_spec.2⟩⟩

theorem Own.put {w w' : World} {b m N : Nat} {D : DataW Unit} (h : Own w b m N D) {t : ByteArray} {k : Nat} (hk : k < m) (hown : w'.ownsMap Yba.prog 9 (plainElem (H := Unit) Yba.prog 21) b (N + 1) (D.put (.string t.data.toList) (.lit (.int .i32 k)))) : Own w' b m (N + 1) (D.put (.string t.data.toList) (.lit (.int .i32 k))) := by
  refine ⟨hown, fun s => ?_⟩
  by_cases e : (Lit.string s.data.toList) = .string t.data.toList
  · refine ⟨k, hk, ?_⟩
    rw [e]
    exact atKey_put_same h.own.isMap (by simp [WideAt.IsKeyLit]) _ _
  · obtain ⟨k2, h2, h3⟩ := h.each s
    exact ⟨k2, h2, by rw [atKey_put_other e]; exact h3⟩

theorem Own.grown {w w' : World} {b m N : Nat} {D : DataW Unit} {g : Option Nat} (h : Own w b m N D) (hg : w.grownBy w' g) (hne : some b ≠ g) : Own w' b m N D := ⟨h.own.kept hg hne, h.each⟩
theorem Own.drewN {w : World} {b m N : Nat} {D : DataW Unit} (h : Own w b m N D) (q : Nat) : Own (w.drewN q) b m N D := ⟨by
  obtain ⟨es, clock, h1, h2⟩ := h.own
  exact ⟨es, clock, h1, h2⟩, h.each⟩

/-- What zzs2239bclasses leaves. -/
def ClsPost (w : World) (e : Ending) (w' : World) : Prop :=
  ∃ (b m : Nat) (of : ByteArray → Nat), e = .returned (.agg #[.map (some b), .int .i32 (m : Nat)]) ∧ ClsAt w' (.map (some b)) m of ∧ 1 ≤ m ∧ m ≤ 4 ∧ Below w.heap.size w w'

theorem wf_i32 {k : Nat} (h : k ≤ 1024) : (Lit.int .i32 (k : Int)).wf = true := by
  simp [Lit.wf, IntKind.min, IntKind.max, IntKind.signed, IntKind.bits]
  omega

/-- What the loop of zzs2239bclasses keeps. -/
structure CS (w wr : World) (a : Nat → Nat) (n N : Nat) (D : DataW Unit) : Prop where
  bel : Below w.heap.size w wr
  arr : wr.heap[w.heap.size]? = some (.cells #[.int .u8 (a 0), .int .u8 (a 1), .int .u8 (a 2), .int .u8 (a 3)] 30 (0, 0))
  res : wr.heap[w.heap.size + 1]? = some (.cells #[.map none, .int .i32 0] 45 (0, 0))
  str : wr.heap[w.heap.size + 1 + 1 + 1]? = some (.cells #[.map (some (w.heap.size + 1 + 1)), .int .i32 ((n : Int) % 4 + 1)] 45 (0, 0))
  own : Own wr (w.heap.size + 1 + 1) (n % 4 + 1) N D

theorem CS.start (w : World) (a : Nat → Nat) (n : Nat) : CS w ((((w.alloc (.cells #[.int .u8 (a 0), .int .u8 (a 1), .int .u8 (a 2), .int .u8 (a 3)] 30)).alloc (.cells #[.map none, .int .i32 0] 45)).alloc (.map #[] 0)).alloc (.cells #[.map (some (w.heap.size + 1 + 1)), .int .i32 ((n : Int) % 4 + 1)] 45)) a n 0 (.map []) := by
  have h1 := heap_new (w.alloc (.cells #[.int .u8 (a 0), .int .u8 (a 1), .int .u8 (a 2), .int .u8 (a 3)] 30)) (.cells #[.map none, .int .i32 0] 45)
  rw [show (w.alloc (.cells #[.int .u8 (a 0), .int .u8 (a 1), .int .u8 (a 2), .int .u8 (a 3)] 30)).heap.size = w.heap.size + 1 by simp] at h1
  have h2 := World.ownsMap_made ((w.alloc (.cells #[.int .u8 (a 0), .int .u8 (a 1), .int .u8 (a 2), .int .u8 (a 3)] 30)).alloc (.cells #[.map none, .int .i32 0] 45)) Yba.prog 9 (plainElem (H := Unit) Yba.prog 21)
  rw [show ((w.alloc (.cells #[.int .u8 (a 0), .int .u8 (a 1), .int .u8 (a 2), .int .u8 (a 3)] 30)).alloc (.cells #[.map none, .int .i32 0] 45)).heap.size = w.heap.size + 1 + 1 by simp] at h2
  have h3 := heap_new (((w.alloc (.cells #[.int .u8 (a 0), .int .u8 (a 1), .int .u8 (a 2), .int .u8 (a 3)] 30)).alloc (.cells #[.map none, .int .i32 0] 45)).alloc (.map #[] 0)) (.cells #[.map (some (w.heap.size + 1 + 1)), .int .i32 ((n : Int) % 4 + 1)] 45)
  rw [show (((w.alloc (.cells #[.int .u8 (a 0), .int .u8 (a 1), .int .u8 (a 2), .int .u8 (a 3)] 30)).alloc (.cells #[.map none, .int .i32 0] 45)).alloc (.map #[] 0)).heap.size = w.heap.size + 1 + 1 + 1 by simp] at h3
  exact ⟨((((Below.refl _ _).alloc (Nat.le_refl _) _).alloc (by simp) _).alloc (by simp; omega) _).alloc (by simp; omega) _, heap_old (heap_old (heap_old (heap_new w _))), heap_old (heap_old h1), h3, ⟨h2.alloc _, fun s => ⟨0, by omega, rfl⟩⟩⟩

theorem CS.cell {w wr : World} {a : Nat → Nat} {n N : Nat} {D : DataW Unit} (h : CS w wr a n N D) {i : Nat} (hi : i < 4) : wr.cell? ⟨w.heap.size, i, none⟩ = some (.int .u8 (a i)) := by
  match i, hi with
  | 0, _ => simp [World.cell?, h.arr]
  | 1, _ => simp [World.cell?, h.arr]
  | 2, _ => simp [World.cell?, h.arr]
  | 3, _ => simp [World.cell?, h.arr]
theorem CS.s0 {w wr : World} {a : Nat → Nat} {n N : Nat} {D : DataW Unit} (h : CS w wr a n N D) : wr.cell? ⟨w.heap.size + 1 + 1 + 1, 0, none⟩ = some (.map (some (w.heap.size + 1 + 1))) := by simp [World.cell?, h.str]
theorem CS.s1 {w wr : World} {a : Nat → Nat} {n N : Nat} {D : DataW Unit} (h : CS w wr a n N D) : wr.cell? ⟨w.heap.size + 1 + 1 + 1, 1, none⟩ = some (.int .i32 ((n : Int) % 4 + 1)) := by unfold World.cell?; rw [h.str]; rfl
theorem CS.put {w wr w' : World} {a : Nat → Nat} {n N : Nat} {D : DataW Unit} (h : CS w wr a n N D) {t : ByteArray} {k : Nat} (hk : k < n % 4 + 1) (hown : w'.ownsMap Yba.prog 9 (plainElem (H := Unit) Yba.prog 21) (w.heap.size + 1 + 1) (N + 1) (D.put (.string t.data.toList) (.lit (.int .i32 k)))) (hg : wr.drew.grownBy w' (some (w.heap.size + 1 + 1))) :
    CS w w' a n (N + 1) (D.put (.string t.data.toList) (.lit (.int .i32 k))) :=
  ⟨(h.bel.drew).grown hg h.bel.size (fun k hk => by simp only [Option.some.injEq] at hk; omega), (hg.block _ (lt_of_block h.arr) (fun e => by simp only [Option.some.injEq] at e; omega)).trans h.arr, (hg.block _ (lt_of_block h.res) (fun e => by simp only [Option.some.injEq] at e; omega)).trans h.res, (hg.block _ (lt_of_block h.str) (fun e => by simp only [Option.some.injEq] at e; omega)).trans h.str, h.own.put hk hown⟩

theorem cls_ret {w wr : World} {Q : Ending → World → Prop} {tmps : Array Value} (h4 : tmps.getD 4 undef = .pointer (some ⟨w.heap.size + 1, 0, none⟩)) {a : Nat → Nat} {n N : Nat} {D : DataW Unit} (h : CS w wr a n N D) (hN : N ≤ 4) :
    bodyPost Yba.prog Yba.f18 (ClsPost w) Exit.ret ⟨tmps, []⟩ ((wr.setCell ⟨w.heap.size + 1, 0, none⟩ (.map (some (w.heap.size + 1 + 1)))).setCell ⟨w.heap.size + 1, 1, none⟩ (.int .i32 ((n : Int) % 4 + 1))) := by
  have hg : wr.grownBy ((wr.setCell ⟨w.heap.size + 1, 0, none⟩ (.map (some (w.heap.size + 1 + 1)))).setCell ⟨w.heap.size + 1, 1, none⟩ (.int .i32 ((n : Int) % 4 + 1))) (some (w.heap.size + 1)) := grown_setCell (grown_setCell (World.grownBy.refl wr _))
  have hb := h.bel.grown hg h.bel.size (fun k hk => by simp only [Option.some.injEq] at hk; omega)
  have h1 := heap_setCell_same wr (w.heap.size + 1) 0 _ 45 (.map (some (w.heap.size + 1 + 1))) h.res
  have h2 := heap_setCell_same _ (w.heap.size + 1) 1 _ 45 (.int .i32 ((n : Int) % 4 + 1)) h1
  generalize ((wr.setCell ⟨w.heap.size + 1, 0, none⟩ (.map (some (w.heap.size + 1 + 1)))).setCell ⟨w.heap.size + 1, 1, none⟩ (.int .i32 ((n : Int) % 4 + 1))) = W at *
  have c0 : W.cell? ⟨w.heap.size + 1, 0, none⟩ = some (.map (some (w.heap.size + 1 + 1))) := by simp [World.cell?, h2]
  have c1 : W.cell? ⟨w.heap.size + 1, 1, none⟩ = some (.int .i32 ((n : Int) % 4 + 1)) := by simp [World.cell?, h2]
  obtain ⟨of, hof⟩ := (h.own.grown hg (by simp)).cls hN
  rw [Array.getD_eq_getD_getElem?] at h4
  refine bodyPost_ret (v := .agg #[.map (some (w.heap.size + 1 + 1)), .int .i32 ((n : Int) % 4 + 1)]) ?_ rfl ⟨w.heap.size + 1 + 1, n % 4 + 1, of, by simp, hof, by omega, by omega, hb⟩
  simp [results, Yba.results18, go_sem, c0, c1, h4]

set_option maxRecDepth 100000 in
set_option maxHeartbeats 1600000 in
theorem classes18 (a : Nat → Nat) (n : Nat) (ha : ∀ i, a i < 256) (hn : n < 256) (w : World) :
    Calls Yba.prog 18 #[.agg #[.int .u8 (a 0), .int .u8 (a 1), .int .u8 (a 2), .int .u8 (a 3)], .int .u8 n] w (ClsPost w) := by
  have hmm := @run_makeMap Yba.prog
  have HS := hid (CS.start w a n)
  have hn4 : n % 4 < 4 := by omega
  go_enter Yba.func18, Yba.ntmps18
  go_wp2_with fail
  go_loopw [7] (fun vi wr => ∃ (i N : Nat) (D : DataW Unit), i ≤ 4 ∧ N ≤ i ∧ vi = .int .i64 i ∧ CS w wr a n N D) (fun vi _ => 4 - (intOf vi).toNat)
  case atStart => exact ⟨0, 0, _, by omega, by omega, rfl, HS.out⟩
  case round =>
    obtain ⟨i, N, D, hi, hN, rfl, hs⟩ := hrel
    clear HS
    have HS := hid hs
    have s0 := hs.s0
    have s1 := hs.s1
    rcases Nat.lt_or_ge i 4 with hlt | hge
    · have t1 : (i : Int) < 4 := by omega
      have c0 := hs.cell hlt
      have hai := ha i
      clear hs
      generalize a i = ai at *
      go_upto_region 7 with fail
      have ek : ((ai : Int) % ((n : Int) % 4 + 1)) = ((ai % (n % 4 + 1) : Nat) : Int) := by
        rw [Int.natCast_emod]
        congr 1
      have hk := Nat.mod_lt ai (show 0 < n % 4 + 1 by omega)
      rw [ek]
      clear ek
      generalize ai % (n % 4 + 1) = kk at *
      cases g : ((kk : Int) != 0)
      · go_wp2_with fail
        go_roundw
        case rel => exact ⟨i + 1, N, D, by omega, by omega, rfl, HS.out⟩
        case measure => simp [intOf]; omega
      · obtain ⟨w1, hrun, hown1, hg1⟩ := (HS.out.own.own).drew.update (key := .string (valB i)) (val := .int .i32 (kk : Int)) klaw Yba.underlying43 (by unfold maxLen; omega) (keyOf_string_mk Yba.underlying9 (by rw [valB_size]; unfold maxLen; omega)) (plainElem_int Yba.underlying21 (wf_i32 (by omega)))
        have HS2 := hid (HS.out.put hk hown1 hg1)
        clear hown1 hg1
        go_wp2_with fail
        go_region_with (go_at_call 12; refine (val12 i (by omega) _).mono ?_; rintro e w' ⟨rfl, rfl⟩)
        all_goals go_wp2_with fail
        all_goals go_roundw
        all_goals first | exact ⟨i + 1, N + 1, _, by omega, by omega, rfl, HS2.out⟩ | (simp [intOf]; omega)
    · have : i = 4 := by omega
      subst this
      have r0 : wr.cell? ⟨w.heap.size + 1, 0, none⟩ = some (.map none) := by simp [World.cell?, hs.res]
      have r1 : wr.cell? ⟨w.heap.size + 1, 1, none⟩ = some (.int .i32 0) := by simp [World.cell?, hs.res]
      have rf : ∀ j, wr.frozen? ⟨w.heap.size + 1, j, none⟩ = false := fun j => by simp [World.frozen?, hs.res]
      clear hs
      go_wp2_with fail
      exact cls_ret (Q := ClsPost w) rfl HS.out (by omega)
end Go.Proofs.Ybulkatiq
