/-
  The walk of SettleTargets.
-/
import Derived.Test.YbulkatmkFmtCheck
import Derived.Maps.AppendAt
import Derived.Deep.AppendLies
import Derived.OwnWalk
namespace Go.Proofs.YbulkatmkFmt
open Go.ChangeShapes Go.WideShapes Go.ChangeAt Go.RowKit Go.Extern.Stop Go.Stop

def sReady : ByteArray := ⟨#[114, 101, 97, 100, 121]⟩
def sReviewDue : ByteArray := ⟨#[114, 101, 118, 105, 101, 119, 45, 100, 117, 101]⟩
def sFixDue : ByteArray := ⟨#[102, 105, 120, 45, 100, 117, 101]⟩
def sDone : ByteArray := ⟨#[100, 111, 110, 101]⟩

/-- The variable dues: three rows of three strings; the first of each is a state. -/
structure DuesAt (w : World) (b o c : Nat) (s : Nat → ByteArray) : Prop where
  var : w.cell? ⟨3, 0, none⟩ = some (.slice (some ⟨b, o, none⟩) 3 c)
  cell : ∀ j, j < 9 → w.cell? ⟨b, o + j, none⟩ = some (.string (s j))
  s0 : s 0 = sReady
  s3 : s 3 = sReviewDue
  s6 : s 6 = sFixDue

def strs (l : List ByteArray) : List Value := l.map Value.string

theorem info9 : (Ybaf.prog.info? 9).map (fun i => (i.zero, i.size, i.bytes)) = some (some (.string ByteArray.empty), 1, 16) := by kernel_rfl
theorem info_parts {e : TypeId} {z : Value} {s b : Nat} (h : (Ybaf.prog.info? e).map (fun i => (i.zero, i.size, i.bytes)) = some (some z, s, b)) : ∃ i, Ybaf.prog.info? e = some i ∧ i.zero = some z ∧ i.size = s ∧ i.bytes = b := by
  obtain ⟨i, hi, h⟩ := Option.map_eq_some_iff.1 h
  simp only [Prod.mk.injEq] at h
  exact ⟨i, hi, h.1, h.2.1, h.2.2⟩

theorem owns_shape {w : World} {base : Nat} {e : TypeId} {size : Nat} {v : Value} {n : Nat} {xs : List Value} (h : w.ownsRow base e size v n xs) : ∃ ao cap, v = .slice ao n cap := by
  rcases h.2 with ⟨rfl, rfl⟩ | ⟨g, cap, _, rfl, _⟩
  · exact ⟨_, _, rfl⟩
  · exact ⟨_, _, rfl⟩

def tg : List ByteArray := [sReady, sReviewDue, sFixDue]

set_option maxRecDepth 100000 in
set_option maxHeartbeats 800000 in
theorem targets_any {w : World} {b o c : Nat} {s : Nat → ByteArray} (h : DuesAt w b o c s) :
    Calls Ybaf.prog 16 #[] w fun e w' => ∃ v, e = .returned v ∧ w'.ownsRow w.heap.size 9 1 v 4 (strs [sReady, sReviewDue, sFixDue, sDone]) ∧ Below w.heap.size w w' := by
  obtain ⟨i0, hi0, hz0, hz1, hz2⟩ := info_parts info9
  have hv := h.var
  have hb : b < w.heap.size := block_lt_of_cell (h.cell 0 (by omega))
  have HS := hid (show s 0 = sReady ∧ s 3 = sReviewDue ∧ s 6 = sFixDue from ⟨h.s0, h.s3, h.s6⟩)
  go_enter Ybaf.func16, Ybaf.ntmps16
  go_wp2
  go_loopw [1, 6] (fun v i wr => ∃ k : Nat, k ≤ 3 ∧ i = .int .i64 k ∧ wr.ownsRow w.heap.size 9 1 v k (strs (tg.take k)) ∧ Below w.heap.size w wr) (fun _ i _ => 3 - (intOf i).toNat)
  case atStart => exact ⟨0, by omega, rfl, World.ownsRow_nil _ _ _ _, Below.refl _ _⟩
  case round =>
    obtain ⟨k, hk, rfl, hown, hbel⟩ := hrel
    obtain ⟨ao, cap, hv1⟩ := owns_shape hown
    subst hv1
    have HO := hid hown
    have HB := hid hbel
    have hsz := hbel.size
    clear hown
    rcases Nat.lt_or_ge k 3 with hlt | hge
    · have c0 : wr.cell? ⟨b, o + k * 3, none⟩ = some (.string (s (3 * k))) := by rw [hbel.cell hb, Nat.mul_comm k 3]; exact h.cell (3 * k) (by omega)
      have c1 : wr.cell? ⟨b, o + k * 3 + 1, none⟩ = some (.string (s (3 * k + 1))) := by rw [hbel.cell hb, Nat.mul_comm k 3, Nat.add_assoc]; exact h.cell (3 * k + 1) (by omega)
      have c2 : wr.cell? ⟨b, o + k * 3 + 2, none⟩ = some (.string (s (3 * k + 2))) := by rw [hbel.cell hb, Nat.mul_comm k 3, Nat.add_assoc]; exact h.cell (3 * k + 2) (by omega)
      have t1 : (k : Int) < 3 := by omega
      clear hbel hv h
      go_wp2_with (at_builtin; refine wpList_append_own_at _ rfl _ _ 43 rfl w.heap.size 9 i0 (.string ByteArray.empty) 1 16 Ybaf.underlying43 hi0 hz0 hz1 hz2 rfl (by decide) (.slice ao k cap) k (strs (tg.take k)) rfl ?own ⟨wr.heap.size + 1, 0, none⟩ 1 1 [.string (s (3 * k))] rfl rfl ?c1 ?c2 ?c3 ?c4 ?c5 ?_)
      case own => exact (HO.out.alloc _).alloc _
      case c1 => intro j u hu; match j, hu with | 0, hu => simp at hu; subst hu; go_simp
      case c2 => intro u hu; simp at hu; subst hu; rfl
      case c3 => unfold maxLen; omega
      case c4 => omega
      case c5 => simp; omega
      · intro v' w1 hown' hgrow _ hloc
        have hg5 := ((World.grownBy_alloc wr _ _).trans (World.grownBy_alloc _ _ _)).trans hgrow
        have HB3 := hid (HB.out.grown hg5 hsz (fun k hk => (HO.out.lt k hk).1))
        have hs : strs (tg.take k) ++ [Value.string (s (3 * k))] = strs (tg.take (k + 1)) := by
          rcases (show k = 0 ∨ k = 1 ∨ k = 2 by omega) with rfl | rfl | rfl
          · simp [strs, tg, HS.out.1]
          · simp [strs, tg, HS.out.2.1]
          · simp [strs, tg, HS.out.2.2]
        rw [hs] at hown'
        have HV3 := hid hown'
        clear hg5 hgrow hown' hloc hs c0 c1 c2
        go_wp2_with fail
        go_roundw
        case rel => exact ⟨k + 1, by omega, rfl, HV3.out, HB3.out⟩
        case measure => simp [intOf]; omega
    · have : k = 3 := by omega
      subst this
      clear hbel hv h
      go_wp2_with (at_builtin; (refine wpList_append_own_at _ rfl _ _ 43 rfl w.heap.size 9 i0 (.string ByteArray.empty) 1 16 Ybaf.underlying43 hi0 hz0 hz1 hz2 rfl (by decide) (.slice ao 3 cap) 3 (strs (tg.take 3)) rfl ?own ⟨wr.heap.size, 0, none⟩ 1 1 [.string ⟨#[100, 111, 110, 101]⟩] rfl rfl ?c1 ?c2 ?c3 ?c4 ?c5 ?_))
      case own => exact HO.out.alloc _
      case c1 => intro j u hu; match j, hu with | 0, hu => simp at hu; subst hu; go_simp
      case c2 => intro u hu; simp at hu; subst hu; rfl
      case c3 => unfold maxLen; omega
      case c4 => omega
      case c5 => simp; omega
      · intro v' w1 hown' hgrow _ _
        have hg5 := (World.grownBy_alloc wr _ _).trans hgrow
        have HB3 := hid (HB.out.grown hg5 hsz (fun k hk => (HO.out.lt k hk).1))
        have HV3 := hid hown'
        clear hg5 hgrow hown'
        go_wp2_with fail
        go_ret
        exact ⟨v', rfl, HV3.out, HB3.out⟩
end Go.Proofs.YbulkatmkFmt
