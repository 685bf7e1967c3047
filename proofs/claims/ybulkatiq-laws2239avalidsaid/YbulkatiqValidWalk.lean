/-
  The walk of LawS2239AValid.
-/
import Derived.Test.YbulkatiqRows
import Derived.WalkKit
import Derived.ProofKit
import Derived.Below
import Derived.Laws.OwnMore
import Derived.Laws.IdiomStrings
import Derived.Lib.BufferRead
import Derived.Test.YbulkatiqBytes
namespace Go.Proofs.Ybulkatiq.lawS2239AValid
open Go.ChangeShapes Go.WideShapes Go.ChangeAt Go.RowKit
set_option linter.unusedVariables false

/-- WHAT THE WALK IS TOLD OF A SLICE OF INTEGERS THAT CAME IN: it is nil; or it leads to a row of 'cap' cells, the numbers 'zs' (the first 'len' are its elements, the rest its spare room), each fitting its kind. -/
def IsRow (k : IntKind) (w : World) (a : Option Addr) (len cap : Nat) (zs : List Int) : Prop :=
  (a = none ∧ len = 0 ∧ cap = 0 ∧ zs = []) ∨
  ∃ x, a = some x ∧ len ≤ cap ∧ cap ≤ maxLen ∧ zs.length = cap ∧ (∀ i, i < zs.length → w.cell? (x.add i) = some (.int k (zs.getD i 0))) ∧ ∀ n ∈ zs, (Lit.int k n).wf = true

/-! ### THE WALK: the Go text returns true, AND WRITES NOTHING THAT WAS THERE: 'Below w.heap.size w w'' (Derived/Below.lean: '.refl', '.alloc', '.drew', '.setCell' at a new block, '.trans'). Open each 'IsRow' by 'rcases' AHEAD of 'go_enter'; part every test ahead of the walk. -/
/-! ### Plain facts on worlds -/
theorem shape {w : World} {base : Nat} {e : TypeId} {size : Nat} {v : Value} {n : Nat} {xs : List Value} (h : w.ownsRow base e size v n xs) : ∃ ao cap, v = .slice ao n cap := by
  rcases h.2 with ⟨rfl, rfl⟩ | ⟨g, cap, _, rfl, _⟩
  · exact ⟨_, _, rfl⟩
  · exact ⟨_, _, rfl⟩

theorem rows_apart {w : World} {b b' : Nat} {e e' : TypeId} {s s' : Nat} {v v' : Value} {n n' : Nat} {xs xs' : List Value} (h : w.ownsRow b e s v n xs) (h' : w.ownsRow b' e' s' v' n' xs') (hne : e ≠ e') : v.ownBlock = none ∨ v.ownBlock ≠ v'.ownBlock := by
  rcases h.2 with ⟨rfl, _⟩ | ⟨g, cap, cur, rfl, _, hg, _⟩
  · exact .inl rfl
  · refine .inr fun heq => ?_
    rcases h'.2 with ⟨rfl, _⟩ | ⟨g', cap', cur', rfl, _, hg', _⟩
    · cases heq
    · simp only [Value.ownBlock, Option.some.injEq] at heq
      subst heq
      rw [hg] at hg'
      simp at hg'
      exact hne hg'.2

def u8s (l : List UInt8) : List Value := l.map fun b => Value.int .u8 (b.toNat : Int)

theorem convert_own {w : World} {base n : Nat} {v : Value} {l : List UInt8} (h : w.ownsRow base 5 1 v n (u8s l)) :
    (convert 25 9 v).run Yba.prog w = .ok (.string ⟨l.toArray⟩) w := by
  have hl : l.length = n := by have := h.1; simpa [u8s] using this
  rcases h.2 with ⟨rfl, h0⟩ | ⟨g, cap, cur, rfl, _, hg, _, _, _, htake⟩
  · have : l = [] := by cases l <;> simp_all
    subst this
    exact Lib.run_convert_nil_bytes w 25 9 5 0 Yba.underlying25 Yba.underlying5 Yba.underlying9
  · subst hl
    exact run_convert_bytes_back w 25 9 5 ⟨g, 0, none⟩ cap l Yba.underlying25 Yba.underlying5 Yba.underlying9 (Lib.bytes_of_row hg (by simpa [u8s, Lib.byteCells] using htake))

def bounds (zs : List Int) (k : Nat) : List Value := (List.range (k + 1)).map fun i => Value.int .i64 (Clip.blen zs i : Int)

theorem step_b {w wr w2 : World} {z0 : List Int} {k : Nat} {z : Int} {u5 u6 v' : Value} {xs : List Value} (hk : k < z0.length) (hz : z = z0.getD k 0)
    (ho5 : wr.ownsRow w.heap.size 5 1 u5 (Clip.blen z0 k) (u8s (Clip.bytesOf (z0.take k)))) (ho6 : wr.ownsRow w.heap.size 3 1 u6 (k + 1) xs) (hbel : Below w.heap.size w wr)
    (h1 : w2.ownsRow w.heap.size 5 1 v' (Clip.blen z0 k + ((Clip.enc z).map fun b => (b.toNat : Int)).length) (u8s (Clip.bytesOf (z0.take k)) ++ ((Clip.enc z).map fun b => (b.toNat : Int)).map (Value.int .u8)))
    (h2 : wr.grownBy w2 u5.ownBlock) :
    w2.ownsRow w.heap.size 5 1 v' (Clip.blen z0 (k + 1)) (u8s (Clip.bytesOf (z0.take (k + 1)))) ∧ w2.ownsRow w.heap.size 3 1 u6 (k + 1) xs ∧ Below w.heap.size w w2 := by
  have e := Clip.bytesOf_snoc z0 k hk
  rw [← hz] at e
  refine ⟨?_, ho6.kept h2 (rows_apart ho6 ho5 (by decide)), hbel.grown h2 hbel.size fun g hg => (ho5.lt g hg).1⟩
  have e1 : Clip.blen z0 (k + 1) = Clip.blen z0 k + ((Clip.enc z).map fun b => (b.toNat : Int)).length := by
    unfold Clip.blen; rw [e]; simp
  rw [e1, e]
  simpa [u8s, Function.comp_def] using h1

theorem step_c {w w2 w3 : World} {z0 : List Int} {k : Nat} {v5 u6 v' : Value} {o : Obj} {n5 : Nat} {x5 xs : List Value} (hxs : xs = bounds z0 k)
    (ho5 : w2.ownsRow w.heap.size 5 1 v5 n5 x5) (ho6 : w2.ownsRow w.heap.size 3 1 u6 (k + 1) xs) (hbel : Below w.heap.size w w2)
    (h1 : w3.ownsRow w.heap.size 3 1 v' (k + 1 + 1) (xs ++ [.int .i64 (Clip.blen z0 (k + 1) : Int)]))
    (h2 : (w2.alloc o).grownBy w3 u6.ownBlock) :
    w3.ownsRow w.heap.size 5 1 v5 n5 x5 ∧ w3.ownsRow w.heap.size 3 1 v' (k + 1 + 1) (bounds z0 (k + 1)) ∧ Below w.heap.size w w3 := by
  have h3 := Clip.grownBy_alloc_trans h2
  refine ⟨ho5.kept h3 (rows_apart ho5 ho6 (by decide)), ?_, hbel.grown h3 hbel.size fun g hg => (ho6.lt g hg).1⟩
  subst hxs
  have : bounds z0 (k + 1) = bounds z0 k ++ [.int .i64 (Clip.blen z0 (k + 1) : Int)] := by
    unfold bounds; rw [List.range_succ (n := k + 1), List.map_append]; rfl
  rw [this]; exact h1


theorem blen_take {z0 : List Int} {len i : Nat} (h : i ≤ len) : Clip.blen (z0.take len) i = Clip.blen z0 i := by
  unfold Clip.blen; rw [List.take_take, Nat.min_eq_left h]

theorem at_bounds {wr : World} {B : Nat} {z0 : List Int} {len : Nat} {v : Value} (h : wr.ownsRow B 3 1 v (len + 1) (bounds z0 len)) :
    ∃ g cap, v = .slice (some ⟨g, 0, none⟩) (len + 1) cap ∧ ∀ j, j ≤ len → wr.cell? ⟨g, j, none⟩ = some (.int .i64 (Clip.blen z0 j : Int)) := by
  obtain ⟨g, cap, rfl⟩ : ∃ g cap, v = .slice (some ⟨g, 0, none⟩) (len + 1) cap := by
    rcases h.2 with ⟨_, h0⟩ | ⟨g, cap, _, rfl, _⟩
    · omega
    · exact ⟨g, cap, rfl⟩
  refine ⟨g, cap, rfl, fun j hj => ?_⟩
  rw [h.cellAt j (by omega)]
  unfold bounds
  rw [List.getElem?_map, List.getElem?_range (by omega)]
  rfl

set_option maxRecDepth 100000 in
set_option maxHeartbeats 800000 in
theorem walk (a0 : Option Addr) (len0 cap0 : Nat) (z0 : List Int) (a1 : Int) (w : World) (w0 : IsRow .u8 w a0 len0 cap0 z0) (w1 : (Lit.int .i64 a1).wf = true) :
    Calls Yba.prog 4 #[.slice a0 len0 cap0, .int .i64 a1] w fun e w' => e = .returned (.bool true) ∧ Below w.heap.size w w' := by
  by_cases hbig : (1024 : Int) < (len0 : Int)
  · go_enter Yba.func4, Yba.ntmps4
    go_wp2
    go_ret
    exact ⟨rfl, Below.refl _ _⟩
  obtain ⟨ifi, hi, hz0, hz1, hz2⟩ := info_parts Clip.info3
  go_enter Yba.func4, Yba.ntmps4
  go_wp2
  go_loopw [5, 6, 20] (fun v5 v6 i wr => ∃ k : Nat, k ≤ len0 ∧ i = .int .i64 k ∧ wr.ownsRow w.heap.size 5 1 v5 (Clip.blen z0 k) (u8s (Clip.bytesOf (z0.take k))) ∧ wr.ownsRow w.heap.size 3 1 v6 (k + 1) (bounds z0 k) ∧ Below w.heap.size w wr) (fun _ _ i _ => len0 - (intOf i).toNat)
  case atStart => exact ⟨0, by omega, rfl, World.ownsRow_nil _ _ _ _, World.ownsRow_lit w #[.int .i64 0] 1 (Nat.le_refl _) (by decide) rfl, (Below.refl _ _).alloc (Nat.le_refl _) _⟩
  case round =>
    obtain ⟨k, hk, rfl, ho5, ho6, hbel⟩ := hrel
    have hk4 := Clip.blen_le z0 k
    have hsz := hbel.size
    by_cases hlt : k < len0
    · rcases w0 with ⟨_, h, _⟩ | ⟨x, rfl, hlc, hcm, hzl, hcell, hwf⟩
      · omega
      obtain ⟨b, off, spot⟩ := x
      have hspot : spot = none := by simpa [Addr.add] using World.cell?_spot (hcell 0 (by omega))
      subst hspot
      have hc0 := hcell k (by omega)
      rw [add_plain] at hc0
      have hbB : b < w.heap.size := World.block_lt_of_cell? w _ hc0
      have hck : wr.cell? ⟨b, off + k, none⟩ = some (.int .u8 (z0.getD k 0)) := (hbel.cell (by exact hbB)).trans hc0
      have hzb : 0 ≤ z0.getD k 0 ∧ z0.getD k 0 ≤ 255 := bounds_u8 (hwf _ (by rw [List.getD_eq_getElem?_getD, List.getElem?_eq_getElem (by omega)]; exact List.getElem_mem _))
      obtain ⟨z, hz⟩ : ∃ z, z = z0.getD k 0 := ⟨_, rfl⟩
      rw [← hz] at hck hzb
      have HZ := Clip.hid hz
      obtain ⟨hzb0, hzb1⟩ := hzb
      have HC := Clip.hid hcell
      clear hz hcell hc0 hwf
      go_wp2_with fail
      refine (Clip.rune_any z wr hzb0 hzb1).mono ?_
      rintro e w' ⟨rfl, rfl⟩
      go_wp2_with fail
      refine (Clip.append_any z w.heap.size u5 _ _ wr ho5 hsz (by omega)).mono ?_
      rintro e w2 ⟨v5, rfl, hv5, hg5⟩
      obtain ⟨ho5, ho6, hbel⟩ := step_b (by omega) HZ.out ho5 ho6 hbel hv5 hg5
      clear hv5 hg5 hsz hck
      have hsz := hbel.size
      obtain ⟨ao5, cap5, rfl⟩ := shape ho5
      have hk5 := Clip.blen_le z0 (k + 1)
      go_wp2_with (at_builtin; refine wpList_append_own _ rfl _ _ 26 rfl w.heap.size 3 ifi (.int .i64 0) 1 8 Yba.underlying26 hi hz0 hz1 hz2 rfl (by decide) _ _ _ rfl (ho6.alloc _) ⟨w2.heap.size, 0, none⟩ 1 1 [.int .i64 (Clip.blen z0 (k + 1) : Int)] rfl rfl ?c1 ?c2 ?c3 ?c4 ?c5 ?_)
      case c1 => exact cell_one_new _ _ _
      case c2 => intro u hu; simp at hu; subst hu; rfl
      case c3 => unfold maxLen; omega
      case c4 => omega
      case c5 => simp; omega
      · intro v6 w3 hv6 hg6 _
        have R := step_c rfl ho5 ho6 hbel hv6 hg6
        clear hv6 hg6 ho5 ho6 hbel
        go_wp2
        go_roundw
        case rel => exact ⟨k + 1, by omega, by go_num, R.1, R.2.1, R.2.2⟩
        case measure => simp [intOf]; omega
    · have hkl : k = len0 := by omega
      subst hkl
      have hconv := convert_own ho5
      obtain ⟨g, cap6, rfl, hc6⟩ := at_bounds ho6
      obtain ⟨S, hS⟩ : ∃ S : ByteArray, S = ⟨(Clip.bytesOf (z0.take k)).toArray⟩ := ⟨_, rfl⟩
      rw [← hS] at hconv
      have hSs : S.size = Clip.blen z0 k := by rw [hS]; simp [ByteArray.size, Clip.blen]
      have HS := Clip.hid hS
      have HSs := Clip.hid hSs
      have hS4 : S.size ≤ 4 * k := by omega
      clear hS hSs hk4
      obtain ⟨hlo, hhi⟩ := bounds_i64 w1
      by_cases hall : (S.size : Int) ≤ a1
      · go_wp2_with (go_at_call 7; refine (Clip.head_all _ _ _ hall).mono ?_; rintro e w' ⟨rfl, rfl⟩)
        go_ret
        exact ⟨by simp, hbel⟩
      by_cases hnone : a1 ≤ 0
      · go_wp2_with (go_at_call 7; refine (Clip.head_none _ _ _ (by omega) hnone).mono ?_; rintro e w' ⟨rfl, rfl⟩)
        go_ret
        exact ⟨by simp, hbel⟩
      obtain ⟨n, rfl⟩ := Int.eq_ofNat_of_zero_le (show 0 ≤ a1 by omega)
      go_wp2_with fail
      refine (Clip.head_cut _ _ _ (by unfold maxLen; omega) (by omega) (by omega)).mono ?_
      rintro e w' ⟨⟨r, hr, HE, rfl⟩, rfl⟩
      have t1 : decide (S.size ≤ n) = false := decide_eq_false (by omega)
      have t2 : decide (n = 0) = false := decide_eq_false (by omega)
      have hnS : n < S.size := by omega
      have hn0 : 0 < n := by omega
      go_wp2
      go_loop [11, 52] (fun vb i => ∃ m best : Nat, m ≤ k + 1 ∧ i = .int .i64 m ∧ vb = .int .i64 best ∧ best ≤ n ∧ (∃ i, i ≤ k ∧ best = Clip.blen z0 i) ∧ ∀ j, j < m → Clip.blen z0 j ≤ n → Clip.blen z0 j ≤ best) (fun _ i => k + 1 - (intOf i).toNat)
      case atStart => exact ⟨0, 0, by omega, rfl, rfl, by omega, ⟨0, by omega, rfl⟩, fun j hj => by omega⟩
      case round =>
        obtain ⟨m, best, hm, rfl, rfl, hb1, hb2, hb3⟩ := hrel
        have HB2 := Clip.hid hb2
        have HB3 := Clip.hid hb3
        clear hb2 hb3
        by_cases hmk : m ≤ k
        · have hcm := hc6 m hmk
          have hx4 := Clip.blen_le z0 m
          obtain ⟨x, hx⟩ : ∃ x, x = Clip.blen z0 m := ⟨_, rfl⟩
          rw [← hx] at hcm hx4
          have HX := Clip.hid hx
          have HC := Clip.hid hc6
          clear hx hc6
          by_cases hxn : (x : Int) ≤ (n : Int)
          · by_cases hxb : (best : Int) < (x : Int)
            · go_wp2
              go_round
              case rel => exact ⟨m + 1, x, by omega, by go_num, rfl, by omega, ⟨m, hmk, HX.out⟩, fun j hj h => by
                by_cases hjm : j = m
                · subst hjm; rw [HX.out]; exact Nat.le_refl _
                · have := HB3.out j (by omega) h; omega⟩
              case measure => simp [intOf]; omega
            · go_wp2
              go_round
              case rel => exact ⟨m + 1, best, by omega, by go_num, rfl, hb1, HB2.out, fun j hj h => by
                by_cases hjm : j = m
                · subst hjm; rw [← HX.out]; omega
                · exact HB3.out j (by omega) h⟩
              case measure => simp [intOf]; omega
          · go_wp2
            go_round
            case rel => exact ⟨m + 1, best, by omega, by go_num, rfl, hb1, HB2.out, fun j hj h => by
                by_cases hjm : j = m
                · subst hjm; rw [← HX.out] at h; omega
                · exact HB3.out j (by omega) h⟩
            case measure => simp [intOf]; omega
        · have hmk1 : m = k + 1 := by omega
          subst hmk1
          have hSl : (Clip.bytesOf (z0.take k)).length = S.size := by rw [HSs.out]; rfl
          have hzl : k ≤ z0.length := by
            rcases w0 with ⟨_, h0, _, _⟩ | ⟨x, _, hlc, _, hzl, _, _⟩ <;> omega
          have hlk : (z0.take k).length = k := by rw [List.length_take]; omega
          have heq : best = r.size := Clip.cut_best (z0.take k) n r.size best (by omega) (by rw [← HS.out]; exact hr) hb1
            (by obtain ⟨i, hi, hbi⟩ := HB2.out; exact ⟨i, by omega, by rw [blen_take hi]; exact hbi⟩)
            (fun i hi h => by rw [blen_take (by omega)] at h ⊢; exact HB3.out i (by omega) h)
          subst heq
          have hbS : r.size ≤ S.size := by omega
          have eq1 : (r.toList == (S.extract 0 r.size).toList) = true := by rw [HE.out]; simp
          clear hSl hzl hlk
          go_wp2
          go_ret
          exact ⟨by simp [HE.out], hbel⟩
end Go.Proofs.Ybulkatiq.lawS2239AValid
