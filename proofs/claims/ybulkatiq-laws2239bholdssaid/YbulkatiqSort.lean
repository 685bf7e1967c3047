/-
  slices.SortFunc at class cells, by the shelf's contract.
-/
import Derived.Shelf.SlSortCmp.SmallK
import Derived.Shelf.Small.Bits
import Derived.Test.YbulkatiqShelf
import Derived.Test.YbulkatiqWell
set_option maxRecDepth 100000
namespace Go.Proofs
open Go.Shelf
namespace Ybulkatiq
open Go.ChangeShapes Go.WideShapes Go.ChangeAt Go.RowKit Go.Maps Go.WideMaps

def enc2 (p : Nat × Nat) : List Value := [.int .i32 (p.1 : Nat), .int .u8 (p.2 : Nat)]

theorem bits50 (n : Nat) (W : World) (h : n ≤ 12) : Calls Yba.prog 50 #[.int .u64 n] W fun e w' => (∃ l : Int, e = .returned (.int .i64 l)) ∧ w' = W :=
  (Any.bits_Len Yba.bitsLen n W (by omega) (by omega)).mono fun _ _ ⟨he, hw⟩ => ⟨⟨_, he⟩, hw⟩

theorem cmpLays33 (blk off size : Nat) (w : World) : CmpLays Yba.prog 33 #[] enc2 2 cmpC blk off size w := by
  intro m os dk hs x y
  refine (cells33 x y _).mono fun e w' ⟨he, hw⟩ => ⟨he, 1, #[.cells #[.int .i32 (x.1 : Nat), .int .u8 (x.2 : Nat)] 55] ++ #[.cells #[.int .i32 (y.1 : Nat), .int .u8 (y.2 : Nat)] 55] ++ #[.cells #[.int .i64 (cmpI x.1 y.1), .int .i64 (cmpI x.2 y.2)] 3], ?_⟩
  rw [hw, Go.Sort.alloc_eq_grow, Go.Sort.alloc_eq_grow, Go.Sort.alloc_eq_grow, Go.Sort.grow_grow, Go.Sort.grow_grow]
  rfl

theorem ltC (x y : Nat × Nat) : ltOf cmpC x y = decide (x.1 < y.1 ∨ x.1 = y.1 ∧ x.2 < y.2) := by
  unfold ltOf cmpC orI cmpI
  rw [decide_eq_decide]
  repeat' split
  all_goals omega

theorem swoC : Go.Sort.SWO (ltOf cmpC) where
  irrefl x := by rw [ltC]; simp
  trans x y z h1 h2 := by rw [ltC] at *; simp at *; omega
  ntrans x y z h1 h2 := by rw [ltC] at *; simp at *; omega

theorem heap_putRow {w : World} {b off t : Nat} {cur : Array Value} {fr : Nat × Nat} (F : Array Value) (h : w.heap[b]? = some (.cells cur t fr)) : ∃ cur', (Go.Sort.putRow id w b off F).heap[b]? = some (.cells cur' t fr) := by
  refine ⟨Go.Sort.putCells id off F cur, ?_⟩
  show (w.heap.modify b (Go.Sort.onCells (Go.Sort.putCells id off F)))[b]? = _
  rw [Array.getElem?_modify, if_pos rfl, h]
  rfl
theorem heap_putRow_ne {w : World} {b off k : Nat} (F : Array Value) (h : k ≠ b) : (Go.Sort.putRow id w b off F).heap[k]? = w.heap[k]? := by
  show (w.heap.modify b _)[k]? = _
  rw [Array.getElem?_modify, if_neg (fun e => h e.symm)]

theorem heap_grow {w : World} {os : Array Obj} {k : Nat} (h : k < w.heap.size) : (Go.Sort.grow w os).heap[k]? = w.heap[k]? := by
  show (w.heap ++ os)[k]? = _
  rw [Array.getElem?_append_left h]

/-- The row that the sort leaves: only block b has turned. -/
theorem sorted_grown (w : World) (b off m : Nat) (d : Array (Nat × Nat)) (os : Array Obj) : w.grownBy (sortWorldK enc2 2 w b off m d os) (some b) := by
  refine ⟨rfl, rfl, rfl, ?_, fun k hk hne => ?_⟩
  · show w.heap.size ≤ ((Go.Sort.putRow id (Go.Sort.ahead w m) b off _).heap ++ os).size
    rw [Array.size_append, Go.Sort.size_putRow]
    show w.heap.size ≤ w.heap.size + os.size
    omega
  · unfold sortWorldK Go.Sort.putRowK
    rw [heap_grow (by rw [Go.Sort.size_putRow]; exact hk), heap_putRow_ne _ (fun e => hne (by rw [e]))]
    rfl

theorem holdsK_of {w : World} {b off : Nat} {l : List (Nat × Nat)} {cur : Array Value} (hb : w.heap[b]? = some (.cells cur 55 (0, 0))) (h : ∀ (i : Nat) (p : Nat × Nat), l[i]? = some p → w.cell? ⟨b, off + i * 2, none⟩ = some (.int .i32 (p.1 : Nat)) ∧ w.cell? ⟨b, off + i * 2 + 1, none⟩ = some (.int .u8 (p.2 : Nat))) :
    Go.Sort.HoldsK enc2 2 w b off l.toArray := by
  intro j hj
  rw [Go.Sort.size_flatK] at hj
  have hj' : j < l.length * 2 := by simpa using hj
  have hi : j / 2 < l.length := by omega
  have hp : l[j / 2]? = some (l[j / 2]) := by simp [hi]
  have hg := h (j / 2) _ hp
  refine ⟨?_, by simp [World.frozen?, hb]⟩
  rw [Go.Sort.get_flatK enc2 2 l.toArray j (by simpa using hj')]
  have e1 : (l.toArray)[j / 2]! = l[j / 2] := by simp [hi]
  rw [e1]
  rcases Nat.mod_two_eq_zero_or_one j with h2 | h2
  · rw [h2, show off + j = off + j / 2 * 2 by omega]
    exact hg.1
  · rw [h2, show off + j = off + j / 2 * 2 + 1 by omega]
    exact hg.2

theorem diff_of_holdsK {w : World} {b off cap : Nat} {d : Array (Nat × Nat)} {cur : Array Value} (hb : w.heap[b]? = some (.cells cur 55 (0, 0))) (h : Go.Sort.HoldsK enc2 2 w b off d) (hc : d.size ≤ cap) : DiffAt w (.slice (some ⟨b, off, none⟩) d.size cap) d.toList := by
  refine ⟨_, cap, by simp, by simpa using hc, .inr ⟨b, off, cur, rfl, hb, fun i p hp => ?_⟩⟩
  have hi : i < d.size := by have := (List.getElem?_eq_some_iff.1 hp).1; simpa using this
  have e1 : d[i]! = p := by
    rw [getElem!_pos d i hi]
    have := hp
    simp [hi] at this
    exact this
  have h0 := (h (i * 2) (by rw [Go.Sort.size_flatK]; omega)).1
  have h1 := (h (i * 2 + 1) (by rw [Go.Sort.size_flatK]; omega)).1
  rw [Go.Sort.get_flatK enc2 2 d _ (by omega), show i * 2 / 2 = i by omega, show i * 2 % 2 = 0 by omega, e1] at h0
  rw [Go.Sort.get_flatK enc2 2 d _ (by omega), show (i * 2 + 1) / 2 = i by omega, show (i * 2 + 1) % 2 = 1 by omega, e1] at h1
  exact ⟨h0, by rw [Nat.add_assoc]; exact h1⟩

/-- In order: by class, then by cell. -/
def Ordered (l : List (Nat × Nat)) : Prop := ∀ (i j : Nat) (p q : Nat × Nat), i < j → l[i]? = some p → l[j]? = some q → p.1 < q.1 ∨ p.1 = q.1 ∧ p.2 ≤ q.2

def SortPost (w : World) (b off cap : Nat) (l : List (Nat × Nat)) (e : Ending) (w' : World) : Prop :=
  e = .returned (.tuple #[]) ∧ ∃ l', l'.Perm l ∧ Ordered l' ∧ DiffAt w' (.slice (some ⟨b, off, none⟩) l.length cap) l' ∧ w.grownBy w' (some b)

theorem sort32 {w : World} {b off cap : Nat} {l : List (Nat × Nat)} {cur : Array Value} (hb : w.heap[b]? = some (.cells cur 55 (0, 0))) (h : ∀ (i : Nat) (p : Nat × Nat), l[i]? = some p → w.cell? ⟨b, off + i * 2, none⟩ = some (.int .i32 (p.1 : Nat)) ∧ w.cell? ⟨b, off + i * 2 + 1, none⟩ = some (.int .u8 (p.2 : Nat)))
    (hc : l.length ≤ cap) (h12 : l.length ≤ 12) : Calls Yba.prog 32 #[.slice (some ⟨b, off, none⟩) l.length cap, .func (.func 33) #[] #[]] w (SortPost w b off cap l) := by
  have eg : ∀ args w, (callFunc 33 args).run Yba.prog w = .ok (.enter 33 args) w := enters_of Yba.func33 (by kernel_rfl) rfl
  have hH := holdsK_of hb h
  have hcon := AnyQ.slices_SortFunc_small_sorted Yba.sortCells 2 Yba.isAgg55 Yba.sizeOf55 enc2 (fun _ => rfl) (fun x v hv => by simp [enc2] at hv; rcases hv with rfl | rfl <;> rfl) cmpC 33 #[] swoC b off cap l.toArray w eg (cmpLays33 b off _ w) hH (lt_of_block hb) (by simpa using h12) bits50
  change Calls Yba.prog 32 _ _ _ at hcon
  rw [List.size_toArray] at hcon
  refine hcon.mono fun e w' ⟨he, d', n, os, hp, hs, hw⟩ => ⟨he, d'.toList, ?_, ?_, ?_, ?_⟩
  · have := hp.2.2
    have hsz : d'.size = l.length := by rw [hp.1]; simp
    have e1 : d'.extract 0 l.length = d' := by rw [← hsz, Array.extract_size]
    rw [e1] at this
    simpa using this
  · intro i j p q hij hpi hqj
    have hsz : d'.size = l.length := by rw [hp.1]; simp
    have hj : j < d'.size := by have := (List.getElem?_eq_some_iff.1 hqj).1; simpa using this
    have hlt := hs i j (by omega) hij (by omega)
    have ei : d'[i]! = p := by
      rw [getElem!_pos d' i (by omega)]
      simp [show i < d'.size by omega] at hpi
      exact hpi
    have ej : d'[j]! = q := by
      rw [getElem!_pos d' j hj]
      simp [hj] at hqj
      exact hqj
    rw [ei, ej, ltC] at hlt
    simp at hlt
    omega
  · have hsz : d'.size = l.length := by rw [hp.1]; simp
    obtain ⟨cur', hb'⟩ : ∃ cur', w'.heap[b]? = some (.cells cur' 55 (0, 0)) := by
      rw [hw]
      unfold sortWorldK Go.Sort.putRowK
      rw [heap_grow (by rw [Go.Sort.size_putRow]; exact lt_of_block hb)]
      exact heap_putRow _ hb
    have hh : Go.Sort.HoldsK enc2 2 w' b off d' := by
      rw [hw]
      exact holdsK_sortWorldK_c enc2 2 w b off l.toArray d' n os hH (lt_of_block hb) hp.1
    rw [← hsz]
    exact diff_of_holdsK hb' hh (by omega)
  · rw [hw]
    exact sorted_grown w b off n d' os
end Ybulkatiq
end Go.Proofs
