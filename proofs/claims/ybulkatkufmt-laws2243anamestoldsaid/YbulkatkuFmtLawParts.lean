/-
  Parts of the walk of LawS2243ANames.
-/
import Derived.Test.YbulkatkuFmtPlain
namespace Go.Proofs.YbulkatkuFmt.Nm
open Go.ChangeShapes Go.WideShapes Go.ChangeAt Go.RowKit Go.Maps

section
variable {B p : Nat} {X : Option Nat} {M : List ByteArray} {I : List Int} {d : Dat} {w : World}

theorem str_cell {g n cap : Nat} {l : List ByteArray} {w : World} {B : Nat} (h : w.ownsRow B 9 1 (.slice (some ⟨g, 0, none⟩) n cap) n (strs l)) (hn : n = l.length) (k : Nat) (hk : k < l.length) : w.cell? ⟨g, k, none⟩ = some (.string l[k]) := by
  rw [h.cellAt k (by omega)]
  simp [strs, hk]

theorem name_any (h : Mem B p X I d w) (ok : Ok M I d.ns d.bs d.q d.D d.cnt) (htab : Tab w) {j : Nat} {s : ByteArray} (hj : M[j]? = some s) :
    Calls Ybaf.prog 7 #[.pointer (some ⟨p, 0, none⟩), .int .i32 j] w fun e w' => e = .returned (.string s) ∧ Below w.heap.size w w' := by
  have hjM : j < M.length := (List.getElem?_eq_some_iff.1 hj).1
  have hjI : j < I.length := by rw [← ok.len]; exact hjM
  obtain ⟨gi, ci, hiv, _, _⟩ := h.ivO.form (by omega)
  have hA := h.here
  rw [hiv] at hA
  have hO := h.ivO
  rw [hiv] at hO
  have hc := i32_cell hO rfl j hjI
  rcases ok.kinds j I[j] (by simp [hjI]) with ⟨e, e2⟩ | ⟨k, hk, e, e2⟩
  · rw [hj] at e2
    have hjn : j < d.ns.length := (List.getElem?_eq_some_iff.1 e2).1
    obtain ⟨gn, cn, hnv, _, _⟩ := h.nvO.form (by omega)
    have hN := h.nvO
    rw [hnv] at hN hA
    have hcn := str_cell hN rfl j hjn
    have : d.ns[j] = s := by rw [List.getElem?_eq_getElem hjn] at e2; simpa using e2
    rw [this] at hcn
    rw [e] at hc
    refine (name_plain hA hjI hjn hc hcn).mono ?_
    rintro e w' ⟨rfl, rfl⟩
    exact ⟨rfl, Below.refl _ _⟩
  · rw [e] at hc
    rw [hj] at e2
    simp only [Option.some.injEq] at e2
    subst e2
    exact name_idx hA hjI hk hc htab

/-- The model's row turns, or moves to a new block. -/
theorem Mem.turnX {w1 : World} {v' : Value} {n : Nat} {xs : List Value} (h : Mem B p X I d w) (hg : w.grownBy w1 X) (ho : w1.ownsRow B 9 1 v' n xs) (hl : v'.ownBlock = X ∨ ∃ k, w.heap.size ≤ k ∧ v'.ownBlock = some k) : Mem B p v'.ownBlock I d w1 := by
  refine ⟨h.here.kept hg (fun e => h.Xp e.symm), h.hp, h.map.kept hg ?_, h.mapB, h.nvO.kept hg ?_, h.ivO.kept hg ?_, h.bvO.kept hg ?_, h.sep, fun g hgx => ⟨row_kind ho hgx, fun e => ?_⟩⟩
  · cases hr : d.r with
    | none => exact .inl rfl
    | some b => exact .inr fun e => h.Xr hr e.symm
  · cases hr : d.nv.ownBlock with
    | none => exact .inl rfl
    | some b => exact .inr fun e => h.Xn hr e.symm
  · cases hr : d.iv.ownBlock with
    | none => exact .inl rfl
    | some b => exact .inr fun e => h.Xi hr e.symm
  · cases hr : d.bv.ownBlock with
    | none => exact .inl rfl
    | some b => exact .inr fun e => h.Xb hr e.symm
  · rcases hl with e2 | ⟨k, hk, e2⟩
    · exact h.Xn e (by rw [← e2]; exact hgx)
    · rw [hgx] at e2
      simp only [Option.some.injEq] at e2
      have := own_lt h.nvO g e
      omega

theorem row_keepX {w' : World} {vm : Value} {n : Nat} {xs : List Value} (ho : w.ownsRow B 9 1 vm n xs) (hX : X = vm.ownBlock) (hf : Fr B X w w') : w'.ownsRow B 9 1 vm n xs := by
  refine ⟨ho.1, ?_⟩
  rcases ho.2 with hn | ⟨g, cap, cur, rfl, hb, hgg, rest⟩
  · exact .inl hn
  · refine .inr ⟨g, cap, cur, rfl, hb, ?_, rest⟩
    rw [hf.keepX g hX (lt_of_block hgg)]
    exact hgg
end

/-! ### The table of plain names -/
def table (k : Int) : ByteArray :=
  if k % 6 = 0 then ⟨#[97]⟩ else if k % 6 = 1 then ⟨#[98]⟩ else if k % 6 = 2 then ⟨#[105, 116, 101, 109]⟩ else if k % 6 = 3 then ⟨#[120, 57]⟩ else if k % 6 = 4 then ⟨#[97, 98]⟩ else ⟨#[116, 49]⟩

theorem table_any (k : Int) (w : World) (h0 : 0 ≤ k) (h1 : k ≤ 255) :
    Calls Ybaf.prog 4 #[.int .i64 k] w fun e w' => e = .returned (.string (table k)) ∧ w = w' := by
  unfold table
  rcases (show k % 6 = 0 ∨ k % 6 = 1 ∨ k % 6 = 2 ∨ k % 6 = 3 ∨ k % 6 = 4 ∨ k % 6 = 5 by omega) with h | h | h | h | h | h
  all_goals
    go_enter Ybaf.func4, Ybaf.ntmps4
    go_wp2
    go_ret
    exact ⟨by simp, rfl⟩

theorem table_ok (k : Int) : table k ≠ ByteArray.empty ∧ (table k).size ≤ 100 ∧ (!(table k).toList.isEmpty) = true ∧ (table k).toList.isEmpty = false := by
  have key : ∀ l : List UInt8, l ≠ [] → l.length ≤ 100 → (⟨l.toArray⟩ : ByteArray) ≠ ByteArray.empty ∧ (⟨l.toArray⟩ : ByteArray).size ≤ 100 ∧ (!(⟨l.toArray⟩ : ByteArray).toList.isEmpty) = true ∧ (⟨l.toArray⟩ : ByteArray).toList.isEmpty = false := fun l h1 h2 => by
    refine ⟨fun e => ?_, by simpa [ByteArray.size] using h2, ?_, ?_⟩
    · have := congrArg ByteArray.size e
      cases l with
      | nil => exact h1 rfl
      | cons _ _ => simp [ByteArray.size] at this
    · rw [ByteArray.toList_mk]; cases l with
      | nil => exact absurd rfl h1
      | cons _ _ => rfl
    · rw [ByteArray.toList_mk]; cases l with
      | nil => exact absurd rfl h1
      | cons _ _ => rfl
  unfold table
  split
  · exact key [97] (by simp) (by simp)
  · split
    · exact key [98] (by simp) (by simp)
    · split
      · exact key [105, 116, 101, 109] (by simp) (by simp)
      · split
        · exact key [120, 57] (by simp) (by simp)
        · split
          · exact key [97, 98] (by simp) (by simp)
          · exact key [116, 49] (by simp) (by simp)
end Go.Proofs.YbulkatkuFmt.Nm
