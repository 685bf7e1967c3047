/-
  Contracts of clip.zzs2239arune and utf8.AppendRune at the five runes of the law.
-/
import Derived.Test.YbulkatiqClip
import Derived.Laws.AppendOwn
import Derived.OwnWalk
namespace Go.Proofs.Ybulkatiq.Clip
open Go.ChangeShapes Go.WideShapes Go.ChangeAt Go.RowKit

theorem info5 : (Yba.prog.info? 5).map (fun i => (i.zero, i.size, i.bytes)) = some (some (.int .u8 0), 1, 1) := by kernel_rfl
theorem info3 : (Yba.prog.info? 3).map (fun i => (i.zero, i.size, i.bytes)) = some (some (.int .i64 0), 1, 8) := by kernel_rfl

def runeOf (z : Int) : Int := if z % 5 = 0 then 97 else if z % 5 = 1 then 233 else if z % 5 = 2 then 8364 else if z % 5 = 3 then 128512 else 122

theorem rune_any (z : Int) (w : World) (h0 : 0 ≤ z) (h1 : z ≤ 255) :
    Calls Yba.prog 10 #[.int .u8 z] w fun e w' => e = .returned (.int .i32 (runeOf z)) ∧ w = w' := by
  unfold runeOf
  rcases (show z % 5 = 0 ∨ z % 5 = 1 ∨ z % 5 = 2 ∨ z % 5 = 3 ∨ z % 5 = 4 by omega) with h | h | h | h | h
  all_goals
    go_enter Yba.func10, Yba.ntmps10
    go_wp2
    go_ret
    exact ⟨by simp, rfl⟩

/-- What AppendRune leaves. -/
def Appended (base : Nat) (v : Value) (n : Nat) (xs : List Value) (w : World) (news : List Int) (e : Ending) (w' : World) : Prop :=
  ∃ v', e = .returned v' ∧ w'.ownsRow base 5 1 v' (n + news.length) (xs ++ news.map (Value.int .u8)) ∧ w.grownBy w' v.ownBlock

theorem grownBy_alloc_trans {w w' : World} {o : Obj} {row : Option Nat} (h : (w.alloc o).grownBy w' row) : w.grownBy w' row :=
  ⟨h.os, h.tape, h.output, by have := h.size; simp at this; omega, fun k hk hne => (h.block k (by simp; omega) hne).trans (Below.heap_alloc w o k hk)⟩

theorem append_97 (base : Nat) (v : Value) (n : Nat) (xs : List Value) (w : World) (hown : w.ownsRow base 5 1 v n xs) (hb : base ≤ w.heap.size) (hn : n ≤ 1000000) :
    Calls Yba.prog 9 #[v, .int .i32 97] w (Appended base v n xs w [97]) := by
  obtain ⟨i0, hi, hz0, hz1, hz2⟩ := info_parts info5
  go_enter Yba.func9, Yba.ntmps9
  go_wp2_with (at_builtin; refine wpList_append_own _ rfl _ _ 25 rfl base 5 i0 (.int .u8 0) 1 1 Yba.underlying25 hi hz0 hz1 hz2 rfl (by decide) _ _ _ rfl (hown.alloc _) ⟨w.heap.size, 0, none⟩ 1 1 [.int .u8 97] rfl rfl ?c1 ?c2 ?c3 ?c4 ?c5 ?_)
  case c1 => exact cell_one_new _ _ _
  case c2 => intro u hu; simp at hu; subst hu; rfl
  case c3 => unfold maxLen; omega
  case c4 => omega
  case c5 => simp; omega
  · intro v' w1 hown' hgrow _
    go_wp2
    go_ret
    exact ⟨v', rfl, hown', grownBy_alloc_trans hgrow⟩

theorem append_122 (base : Nat) (v : Value) (n : Nat) (xs : List Value) (w : World) (hown : w.ownsRow base 5 1 v n xs) (hb : base ≤ w.heap.size) (hn : n ≤ 1000000) :
    Calls Yba.prog 9 #[v, .int .i32 122] w (Appended base v n xs w [122]) := by
  obtain ⟨i0, hi, hz0, hz1, hz2⟩ := info_parts info5
  go_enter Yba.func9, Yba.ntmps9
  go_wp2_with (at_builtin; refine wpList_append_own _ rfl _ _ 25 rfl base 5 i0 (.int .u8 0) 1 1 Yba.underlying25 hi hz0 hz1 hz2 rfl (by decide) _ _ _ rfl (hown.alloc _) ⟨w.heap.size, 0, none⟩ 1 1 [.int .u8 122] rfl rfl ?c1 ?c2 ?c3 ?c4 ?c5 ?_)
  case c1 => exact cell_one_new _ _ _
  case c2 => intro u hu; simp at hu; subst hu; rfl
  case c3 => unfold maxLen; omega
  case c4 => omega
  case c5 => simp; omega
  · intro v' w1 hown' hgrow _
    go_wp2
    go_ret
    exact ⟨v', rfl, hown', grownBy_alloc_trans hgrow⟩

theorem non_233 (base : Nat) (v : Value) (n : Nat) (xs : List Value) (w : World) (hown : w.ownsRow base 5 1 v n xs) (hb : base ≤ w.heap.size) (hn : n ≤ 1000000) :
    Calls Yba.prog 17 #[v, .int .i32 233] w (Appended base v n xs w [195, 169]) := by
  obtain ⟨i0, hi, hz0, hz1, hz2⟩ := info_parts info5
  go_enter Yba.func17, Yba.ntmps17
  go_wp2_with (at_builtin; refine wpList_append_own _ rfl _ _ 25 rfl base 5 i0 (.int .u8 0) 1 1 Yba.underlying25 hi hz0 hz1 hz2 rfl (by decide) _ _ _ rfl (hown.alloc _) ⟨w.heap.size, 0, none⟩ 2 2 [.int .u8 195, .int .u8 169] rfl rfl ?c1 ?c2 ?c3 ?c4 ?c5 ?_)
  case c1 => 
    intro j u hj
    match j, hj with
    | 0, hj => simp at hj; subst hj; simp [Addr.add]
    | 1, hj => simp at hj; subst hj; simp [Addr.add]
  case c2 => intro u hu; simp at hu; rcases hu with rfl | rfl <;> rfl
  case c3 => unfold maxLen; omega
  case c4 => omega
  case c5 => simp; omega
  · intro v' w1 hown' hgrow _
    go_wp2
    go_ret
    exact ⟨v', rfl, hown', grownBy_alloc_trans hgrow⟩

theorem append_233 (base : Nat) (v : Value) (n : Nat) (xs : List Value) (w : World) (hown : w.ownsRow base 5 1 v n xs) (hb : base ≤ w.heap.size) (hn : n ≤ 1000000) :
    Calls Yba.prog 9 #[v, .int .i32 233] w (Appended base v n xs w [195, 169]) := by
  go_enter Yba.func9, Yba.ntmps9
  go_wp2_with fail
  refine (non_233 base v n xs w hown hb hn).mono ?_
  rintro e w' ⟨v', rfl, h1, h2⟩
  go_wp2
  go_ret
  exact ⟨v', rfl, h1, h2⟩

theorem non_8364 (base : Nat) (v : Value) (n : Nat) (xs : List Value) (w : World) (hown : w.ownsRow base 5 1 v n xs) (hb : base ≤ w.heap.size) (hn : n ≤ 1000000) :
    Calls Yba.prog 17 #[v, .int .i32 8364] w (Appended base v n xs w [226, 130, 172]) := by
  obtain ⟨i0, hi, hz0, hz1, hz2⟩ := info_parts info5
  go_enter Yba.func17, Yba.ntmps17
  go_wp2_with (at_builtin; refine wpList_append_own _ rfl _ _ 25 rfl base 5 i0 (.int .u8 0) 1 1 Yba.underlying25 hi hz0 hz1 hz2 rfl (by decide) _ _ _ rfl (hown.alloc _) ⟨w.heap.size, 0, none⟩ 3 3 [.int .u8 226, .int .u8 130, .int .u8 172] rfl rfl ?c1 ?c2 ?c3 ?c4 ?c5 ?_)
  case c1 => 
    intro j u hj
    match j, hj with
    | 0, hj => simp at hj; subst hj; simp [Addr.add]
    | 1, hj => simp at hj; subst hj; simp [Addr.add]
    | 2, hj => simp at hj; subst hj; simp [Addr.add]
  case c2 => intro u hu; simp at hu; rcases hu with rfl | rfl | rfl <;> rfl
  case c3 => unfold maxLen; omega
  case c4 => omega
  case c5 => simp; omega
  · intro v' w1 hown' hgrow _
    go_wp2
    go_ret
    exact ⟨v', rfl, hown', grownBy_alloc_trans hgrow⟩

theorem append_8364 (base : Nat) (v : Value) (n : Nat) (xs : List Value) (w : World) (hown : w.ownsRow base 5 1 v n xs) (hb : base ≤ w.heap.size) (hn : n ≤ 1000000) :
    Calls Yba.prog 9 #[v, .int .i32 8364] w (Appended base v n xs w [226, 130, 172]) := by
  go_enter Yba.func9, Yba.ntmps9
  go_wp2_with fail
  refine (non_8364 base v n xs w hown hb hn).mono ?_
  rintro e w' ⟨v', rfl, h1, h2⟩
  go_wp2
  go_ret
  exact ⟨v', rfl, h1, h2⟩

theorem non_128512 (base : Nat) (v : Value) (n : Nat) (xs : List Value) (w : World) (hown : w.ownsRow base 5 1 v n xs) (hb : base ≤ w.heap.size) (hn : n ≤ 1000000) :
    Calls Yba.prog 17 #[v, .int .i32 128512] w (Appended base v n xs w [240, 159, 152, 128]) := by
  obtain ⟨i0, hi, hz0, hz1, hz2⟩ := info_parts info5
  go_enter Yba.func17, Yba.ntmps17
  go_wp2_with (at_builtin; refine wpList_append_own _ rfl _ _ 25 rfl base 5 i0 (.int .u8 0) 1 1 Yba.underlying25 hi hz0 hz1 hz2 rfl (by decide) _ _ _ rfl (hown.alloc _) ⟨w.heap.size, 0, none⟩ 4 4 [.int .u8 240, .int .u8 159, .int .u8 152, .int .u8 128] rfl rfl ?c1 ?c2 ?c3 ?c4 ?c5 ?_)
  case c1 => 
    intro j u hj
    match j, hj with
    | 0, hj => simp at hj; subst hj; simp [Addr.add]
    | 1, hj => simp at hj; subst hj; simp [Addr.add]
    | 2, hj => simp at hj; subst hj; simp [Addr.add]
    | 3, hj => simp at hj; subst hj; simp [Addr.add]
  case c2 => intro u hu; simp at hu; rcases hu with rfl | rfl | rfl | rfl <;> rfl
  case c3 => unfold maxLen; omega
  case c4 => omega
  case c5 => simp; omega
  · intro v' w1 hown' hgrow _
    go_wp2
    go_ret
    exact ⟨v', rfl, hown', grownBy_alloc_trans hgrow⟩

theorem append_128512 (base : Nat) (v : Value) (n : Nat) (xs : List Value) (w : World) (hown : w.ownsRow base 5 1 v n xs) (hb : base ≤ w.heap.size) (hn : n ≤ 1000000) :
    Calls Yba.prog 9 #[v, .int .i32 128512] w (Appended base v n xs w [240, 159, 152, 128]) := by
  go_enter Yba.func9, Yba.ntmps9
  go_wp2_with fail
  refine (non_128512 base v n xs w hown hb hn).mono ?_
  rintro e w' ⟨v', rfl, h1, h2⟩
  go_wp2
  go_ret
  exact ⟨v', rfl, h1, h2⟩
end Go.Proofs.Ybulkatiq.Clip
