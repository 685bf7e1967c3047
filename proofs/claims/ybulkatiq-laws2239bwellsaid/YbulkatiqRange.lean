/-
  Ranging over a map from strings to classes.
-/
import Derived.Test.YbulkatiqNumLaw
import Derived.Maps.RangeWalk
namespace Go.Proofs.Ybulkatiq
open Go.ChangeShapes Go.WideShapes Go.ChangeAt Go.RowKit Go.Maps Go.WideMaps


theorem keyOf_str_inv {key : Value} {kl : Lit} (h : keyOf Yba.prog 9 key = some kl) : ∃ x : ByteArray, key = .string x ∧ kl = .string x.data.toList ∧ x.size ≤ maxLen := by
  cases key <;> simp [keyOf, Yba.underlying9, mapKey] at h
  rename_i s
  exact ⟨s, rfl, h.2.symm, h.1⟩

theorem ba_inj {s x : ByteArray} (h : s.data.toList = x.data.toList) : s = x := by
  cases s; cases x
  simp only [ByteArray.mk.injEq]
  exact Array.toList_inj.1 h

theorem next_si {w : World} {ops : Array Oper} {rest : List Oper} {o : Oper} {a : Act} {Q : Exit → Act → World → Prop} (hg : o.guard = none) (it : Operand) (hop : o.op = Op.next it false)
    (b r n : Nat) (D : DataW Unit) (left : Lit → Bool) (cnt : Nat) (hit : a.eval it = .pointer (some ⟨r, 0, none⟩)) (h : w.ranges Yba.prog 9 (plainElem (H := Unit) Yba.prog 21) b r n D left cnt)
    (of : ByteArray → Nat) (hd : ∀ s : ByteArray, D.atKey (.string s.data.toList) (.lit (.int .i32 0)) = .lit (.int .i32 (of s : Nat)))
    (hDone : cnt = 0 → (∀ kl, left kl = false) → wpList Yba.prog ops Q rest (a.put o.dst (.tuple #[.bool false])) w)
    (hMore : ∀ (x : ByteArray) (w' : World) (cnt' : Nat), x.size ≤ maxLen → left (.string x.data.toList) = true → Maps.has D (.string x.data.toList) = true → w'.ranges Yba.prog 9 (plainElem (H := Unit) Yba.prog 21) b r n D (fun z => left z && !z.sameKey (.string x.data.toList)) cnt' → cnt' < cnt →
      w.grownBy w' (some r) → w'.heap.size = w.heap.size → (Instr.entry (.pointer (some ⟨r, 0, none⟩))).run Yba.prog w' = .ok (.tuple #[.string x, .int .i32 (of x : Nat)]) w' → wpList Yba.prog ops Q rest (a.put o.dst (.tuple #[.bool true, .string x, .int .i32 (of x : Nat)])) w') :
    wpList Yba.prog ops Q (o :: rest) a w :=
  wpList_next_ranges w hg it hop 9 klaw (plainElem (H := Unit) Yba.prog 21) Value.string (Value.int .i32) (fun key kl hkey => by obtain ⟨x, rfl, _⟩ := keyOf_str_inv hkey; exact ⟨x, rfl⟩) (fun v y hv => by obtain ⟨c, rfl, _⟩ := plainElem_int_inv Yba.underlying21 hv; exact ⟨c, rfl⟩)
    b r n D left cnt hit h hDone (fun x c kl y w' cnt' hkey hlk hv hat hrg hlt hgr hsz hen => by
      obtain ⟨x', ex, rfl, hwx⟩ := keyOf_str_inv hkey
      cases ex
      obtain ⟨c', ec, rfl, hwc⟩ := plainElem_int_inv Yba.underlying21 hv
      cases ec
      have e1 := (hd x).symm.trans (hat _)
      simp only [DataW.lit.injEq, Lit.int.injEq, true_and] at e1
      subst e1
      exact hMore x w' cnt' hwx hlk (has_true_of_atKey hat) hrg hlt hgr hsz hen)
end Go.Proofs.Ybulkatiq
