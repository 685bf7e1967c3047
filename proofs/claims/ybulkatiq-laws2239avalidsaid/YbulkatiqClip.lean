/-
  Contracts of clip.Head, clip.zzs2239acont, utf8.RuneStart.
-/
import Derived.Test.YbulkatiqRows
import Derived.WalkKit
import Derived.ProofKit
import Derived.OpenShut
import Derived.ShutString
import Derived.WalkSpells
import Derived.WalkLawsBesides
namespace Go.Proofs.Ybulkatiq.Clip
open Go.ChangeShapes Go.WideShapes Go.ChangeAt Go.RowKit

theorem hid {p : Prop} (h : p) : Hid p := h

/-- A continuation byte. -/
def contB (c : Int) : Bool := bits BinOp.and IntKind.u8 c 192 == 128

/-- Byte j of s, 0 beyond its end. -/
def byteAt (s : ByteArray) (j : Nat) : Int := if h : j < s.size then (s[j].toNat : Int) else 0

theorem byteAt_eq (s : ByteArray) (j : Nat) (h : j < s.size) : byteAt s j = (s[j].toNat : Int) := by
  unfold byteAt; rw [dif_pos h]

/-- What Head finds: the cut k of s at n. -/
def HeadAt (s : ByteArray) (n k : Nat) : Prop :=
  (k ≤ n ∧ n < k + 4 ∧ contB (byteAt s k) = false ∧ ∀ j, k < j → j ≤ n → contB (byteAt s j) = true) ∨
  (k = n ∧ ∀ j, j ≤ n → n < j + 4 → contB (byteAt s j) = true)

theorem cont_any (c : Int) (w : World) :
    Calls Yba.prog 8 #[.int .u8 c] w fun e w' => e = .returned (.bool (contB c)) ∧ w = w' := by
  go_enter Yba.func8, Yba.ntmps8
  go_wp2
  go_ret
  exact ⟨rfl, rfl⟩

theorem start_any (c : Int) (w : World) :
    Calls Yba.prog 16 #[.int .u8 c] w fun e w' => e = .returned (.bool (!contB c)) ∧ w = w' := by
  go_enter Yba.func16, Yba.ntmps16
  go_wp2
  go_ret
  exact ⟨rfl, rfl⟩

set_option maxHeartbeats 400000 in
theorem head_mid (s : ByteArray) (n : Nat) (w : World) (hs : s.size ≤ maxLen) (h0 : 0 < n) (hn : n < s.size) :
    Calls Yba.prog 7 #[.string s, .int .i64 n] w fun e w' => (∃ k, HeadAt s n k ∧ e = .returned (.string (s.extract 0 k))) ∧ w = w' := by
  unfold maxLen at hs
  have t1 : ¬ ((s.size : Int) ≤ (n : Int)) := by omega
  have t2 : ¬ ((n : Int) ≤ 0) := by omega
  go_enter Yba.func7, Yba.ntmps7
  go_wp2
  go_loop [5, 6] (fun c i => c = .int .i64 n ∧ ∃ m : Nat, m ≤ 4 ∧ m ≤ n + 1 ∧ i = .int .i64 ((n : Int) - m) ∧ ∀ j, j ≤ n → n < j + m → contB (byteAt s j) = true) (fun _ i => (intOf i + 1).toNat)
  case atStart => exact ⟨rfl, 0, by omega, by omega, by simp, fun j h1 h2 => by omega⟩
  case round =>
    obtain ⟨rfl, m, hm4, hmn, rfl, hall⟩ := hrel
    by_cases hin : m ≤ n ∧ m < 4
    · obtain ⟨hin1, hin2⟩ := hin
      obtain ⟨p, hp⟩ : ∃ p : Nat, p + m = n := ⟨n - m, by omega⟩
      have hpe : (n : Int) - (m : Int) = (p : Int) := by omega
      rw [hpe]
      have hb := byteAt_eq s p (by omega)
      have HB : Hid (byteAt s p = (s[p].toNat : Int)) := hb
      clear hb
      have ht : (n : Int) - 4 < (p : Int) := by omega
      have hps : p < s.size := by omega
      cases hc : contB (s[p].toNat : Int)
      · go_wp2_with (go_at_call 16; refine (start_any _ _).mono ?_; rintro e w' ⟨rfl, rfl⟩)
        go_ret
        refine ⟨⟨p, .inl ⟨by omega, by omega, by rw [HB.out]; exact hc, fun j h1 h2 => hall j h2 (by omega)⟩, rfl⟩, rfl⟩
      · go_wp2_with (go_at_call 16; refine (start_any _ _).mono ?_; rintro e w' ⟨rfl, rfl⟩)
        go_round
        case rel => 
          refine ⟨rfl, m + 1, by omega, by omega, by go_num, fun j h1 h2 => ?_⟩
          by_cases hj : j = p
          · subst hj; rw [HB.out]; exact hc
          · exact hall j h1 (by omega)
        case measure => simp [intOf]
    · by_cases hn1 : m = n + 1
      · have hpe : (n : Int) - (m : Int) = -1 := by omega
        rw [hpe]
        go_wp2
        go_ret
        exact ⟨⟨n, .inr ⟨rfl, fun j h1 h2 => hall j h1 (by omega)⟩, rfl⟩, rfl⟩
      · have hm : m = 4 := by omega
        subst hm
        obtain ⟨p, hp⟩ : ∃ p : Nat, p + 4 = n := ⟨n - 4, by omega⟩
        have hpe : (n : Int) - ((4 : Nat) : Int) = (p : Int) := by omega
        rw [hpe]
        have ht : ¬ ((n : Int) - 4 < (p : Int)) := by omega
        go_wp2
        go_ret
        exact ⟨⟨n, .inr ⟨rfl, fun j h1 h2 => hall j h1 (by omega)⟩, rfl⟩, rfl⟩

theorem head_cut (s : ByteArray) (n : Nat) (w : World) (hs : s.size ≤ maxLen) (h0 : 0 < n) (hn : n < s.size) :
    Calls Yba.prog 7 #[.string s, .int .i64 n] w fun e w' => (∃ r : ByteArray, HeadAt s n r.size ∧ Hid (s.extract 0 r.size = r) ∧ e = .returned (.string r)) ∧ w = w' := by
  refine (head_mid s n w hs h0 hn).mono ?_
  rintro e w' ⟨⟨k, hk, rfl⟩, rfl⟩
  have hkn : k ≤ n := by rcases hk with h | h <;> omega
  have hsz : (s.extract 0 k).size = k := by rw [ByteArray.size_extract]; omega
  exact ⟨⟨s.extract 0 k, by rw [hsz]; exact hk, show s.extract 0 (s.extract 0 k).size = s.extract 0 k by rw [hsz], rfl⟩, rfl⟩

theorem head_all (s : ByteArray) (n : Int) (w : World) (h : (s.size : Int) ≤ n) :
    Calls Yba.prog 7 #[.string s, .int .i64 n] w fun e w' => e = .returned (.string s) ∧ w = w' := by
  go_enter Yba.func7, Yba.ntmps7
  go_wp2
  go_ret
  exact ⟨rfl, rfl⟩

theorem head_none (s : ByteArray) (n : Int) (w : World) (h : n < (s.size : Int)) (h0 : n ≤ 0) :
    Calls Yba.prog 7 #[.string s, .int .i64 n] w fun e w' => e = .returned (.string ByteArray.empty) ∧ w = w' := by
  have t : ¬ ((s.size : Int) ≤ n) := by omega
  go_enter Yba.func7, Yba.ntmps7
  go_wp2
  go_ret
  exact ⟨rfl, rfl⟩
end Go.Proofs.Ybulkatiq.Clip
