/-
  A law of no program: append(s, make([]T, k)...) onto a slice that the call owns, T of one cell; where the new slice lies.
-/
import Derived.Test.YbulkatkuFmtName
namespace Go.Proofs.YbulkatkuFmt.Nm
open Go.ChangeShapes Go.WideShapes Go.ChangeAt Go.RowKit Go.Maps

theorem zeroCells_one {z : Value} (hz : z.cells = #[z]) (k : Nat) : Builtin.zeroCells z.cells k = (List.replicate k z).toArray := by
  rw [hz]
  unfold Builtin.zeroCells
  apply Array.ext'
  simp
  apply List.ext_getElem
  · simp
  · intro i h1 h2
    simp [Nat.mod_one]

theorem run_append_zeros_at {P : Program} (w : World) (base : Nat) (t tn ty e : TypeId) (i : TypeInfo) (z : Value) (bytes : Nat) (kn : IntKind) (ht : P.underlying t = some (.slice e)) (htn : P.underlying tn = some (.int kn)) (hi : P.info? e = some i) (hz : i.zero = some z)
    (hsize : i.size = 1) (hby : i.bytes = bytes) (hzs : z.cells = #[z]) (hz1 : z.oneCell' = true)
    (v : Value) (n : Nat) (xs : List Value) (hown : w.ownsRow base e 1 v n xs) (k : Nat)
    (h63 : n + k ≤ 4611686018427387904) (hbytes : (n + k) * bytes ≤ 140737488355328) (hbase : base ≤ w.heap.size) :
    ∃ v' w', (Builtin.append_ #[t, tn] ty #[v, .int .i64 k]).run P w = .ok v' w' ∧ w'.ownsRow base e 1 v' (n + k) (xs ++ List.replicate k z) ∧ w.grownBy w' v.ownBlock ∧
      (v'.ownBlock = v.ownBlock ∨ v'.ownBlock = some w.heap.size) := by
  subst hby
  have hw : IntKind.i64.wrap (k : Int) = k := by rw [IntKind.wrap_i64]; omega
  have hneg : ¬ ((k : Int) < 0) := by omega
  have hkb : k * i.bytes ≤ (n + k) * i.bytes := Nat.mul_le_mul_right _ (by omega)
  have h48i : ¬ (281474976710656 < (k : Int) * (i.bytes : Int)) := by
    rw [← Int.natCast_mul]
    omega
  have hlen : (xs ++ List.replicate k z).length = (n + k) * 1 := by rw [List.length_append, hown.1, List.length_replicate]; omega
  have hxl : xs.length = n := by have := hown.1; omega
  have grown : ∀ (old : Nat), old < n + k → ∀ (row : Option Nat),
      (w.drew.alloc (.cells (xs.toArray ++ Builtin.zeroCells z.cells k ++ Builtin.zeroCells z.cells (grownCap w (n + k) old e - (n + k))) e)).ownsRow base e 1
        (.slice (some ⟨w.heap.size, 0, none⟩) (n + k) (grownCap w (n + k) old e)) (n + k) (xs ++ List.replicate k z) ∧
      w.grownBy (w.drew.alloc (.cells (xs.toArray ++ Builtin.zeroCells z.cells k ++ Builtin.zeroCells z.cells (grownCap w (n + k) old e - (n + k))) e)) row := by
    intro old ho row
    have hge := grownCap_ge w (n + k) old e
    have hcm : grownCap w (n + k) old e ≤ maxLen := grownCap_le_maxLen w (n + k) old e (by unfold maxLen; omega)
    refine ⟨⟨hlen, .inr ⟨w.heap.size, _, _, rfl, hbase, heap_alloc_new w.drew _, hge, hcm, ?_, ?_⟩⟩, ⟨rfl, rfl, rfl, by simp, fun j hj _ => Below.heap_alloc w.drew _ j hj⟩⟩
    · simp only [zeroCells_one hzs, Array.size_append, List.size_toArray, List.length_replicate, hxl]
      omega
    · simp only [zeroCells_one hzs, Array.toList_append]
      rw [← hlen]
      exact List.take_left
  rcases hown.2 with ⟨rfl, rfl⟩ | ⟨g, cap, cur, rfl, hbg, hg, hnc, hcm, hcs, htake⟩
  · have hx : xs = [] := List.eq_nil_of_length_eq_zero hxl
    subst hx
    by_cases hk : k = 0
    · subst hk
      refine ⟨.slice none 0 0, w, ?_, World.ownsRow_nil w base e 1, World.grownBy.refl _ _, .inl rfl⟩
      simp [Builtin.append_, run_underlying ht, run_underlying htn, sizeOf, typeInfo, hi, asInt, asIntOf, IntKind.wrap_i64]
    · have hr := Lib.run_append_nil_zeros (P := P) w t tn ty e i z .i64 kn ht htn hi hz k (by omega) (by omega) (by omega) (by omega)
      have hgr := grown 0 (by omega) (Value.ownBlock (.slice none 0 0))
      simp only [Nat.zero_add, List.nil_append, Array.empty_append] at hgr ⊢
      exact ⟨_, _, hr, hgr.1, hgr.2, .inr rfl⟩
  · by_cases hroom : n + k ≤ cap
    · have hst := run_storeCells_at P g n e (List.replicate k z) 0 cur w hg (by simp [hcs]; omega) (by intro u hu; rw [(List.mem_replicate.1 hu).2]; exact hz1)
      simp only [Nat.add_zero] at hst
      refine ⟨.slice (some ⟨g, 0, none⟩) (n + k) cap, w.setRow g (cur.toList.take n ++ List.replicate k z ++ cur.toList.drop (n + (List.replicate k z).length)).toArray, ?_,
        ⟨hlen, .inr ⟨g, cap, _, rfl, hbg, setRow_heap w g cur _ e _ hg, hroom, hcm, ?_, ?_⟩⟩, ⟨rfl, rfl, rfl, by simp, fun j _ hj => setRow_other w g j _ (fun e => hj (by simp [Value.ownBlock, e]))⟩, .inl rfl⟩
      · by_cases hk : k = 0
        · subst hk
          simp only [List.replicate_zero, storeCells] at hst
          have hst' := hst
          simp [Builtin.append_, run_underlying ht, run_underlying htn, sizeOf, typeInfo, hi, asInt, asIntOf, IntKind.wrap_i64, hnc, storeCells] at hst' ⊢
          exact hst'
        · simp [Builtin.append_, run_underlying ht, run_underlying htn, sizeOf, typeInfo, zeroValue, hi, hz, hsize, asInt, asIntOf, hw, hneg, hk, h48i, hroom, zeroCells_one hzs, Addr.add_lit, hst]
      · simp only [List.size_toArray, List.length_append, List.length_take, List.length_drop, Array.length_toList, List.length_replicate]
        omega
      · have : cur.toList.take n = xs := by simpa using htake
        rw [this, ← hlen]
        exact List.take_left
    · have hk : 0 < k := by omega
      have hold : (Builtin.firstCells i.size n (.slice (some ⟨g, 0, none⟩) n cap)).run P w.drew = .ok xs.toArray w.drew :=
        run_firstCells_some w.drew i.size n ⟨g, 0, none⟩ n cap xs (by rw [hsize]; omega) (hown.cells (g := g) rfl)
      have hr := Lib.run_append_grow_zeros (P := P) w t tn ty e i z .i64 kn ht htn hi hz (some ⟨g, 0, none⟩) n cap xs hold k hk (by omega) (by omega) (by omega) (by omega) (growslice_fits (by omega) hbytes)
      have hgr := grown cap (by omega) (Value.ownBlock (.slice (some ⟨g, 0, none⟩) n cap))
      exact ⟨_, _, hr, hgr.1, hgr.2, .inr rfl⟩

theorem owns_shape {w : World} {base : Nat} {e : TypeId} {size : Nat} {v : Value} {n : Nat} {xs : List Value} (h : w.ownsRow base e size v n xs) : ∃ ao cap, v = .slice ao n cap := by
  rcases h.2 with ⟨rfl, rfl⟩ | ⟨g, cap, _, rfl, _⟩
  · exact ⟨_, _, rfl⟩
  · exact ⟨_, _, rfl⟩

/-- As one step of a region that draws its order. -/
theorem step_append_zeros {P : Program} (w : World) {ops : Array Oper} {o : Oper} {a : Act} {K : Act → World → Prop} {Q : Exit → Act → World → Prop} {E : Prop} (hgd : o.guard = none) (s x : Operand) (t tn : TypeId)
    (ho : o.op = .call { callee := .builtin .append, args := #[s, x], argTypes := #[t, tn] })
    (base : Nat) (e : TypeId) (i : TypeInfo) (z : Value) (bytes : Nat) (kn : IntKind) (ht : P.underlying t = some (.slice e)) (htn : P.underlying tn = some (.int kn)) (hi : P.info? e = some i) (hz : i.zero = some z)
    (hsize : i.size = 1) (hby : i.bytes = bytes) (hzs : z.cells = #[z]) (hz1 : z.oneCell' = true)
    (v : Value) (n : Nat) (xs : List Value) (hs : a.eval s = v) (hown : w.ownsRow base e 1 v n xs) (k : Nat) (hx : a.eval x = .int .i64 k)
    (h63 : n + k ≤ 4611686018427387904) (hbytes : (n + k) * bytes ≤ 140737488355328) (hbase : base ≤ w.heap.size)
    (h : ∀ ao cap w', w'.ownsRow base e 1 (.slice ao (n + k) cap) (n + k) (xs ++ List.replicate k z) → w.grownBy w' v.ownBlock → ((Value.slice ao (n + k) cap).ownBlock = v.ownBlock ∨ (Value.slice ao (n + k) cap).ownBlock = some w.heap.size) → K (a.put o.dst (.slice ao (n + k) cap)) w') :
    if Region.wanted o (yielded ops a.tmps) = true then Oper.wp P o a w K Q else E := by
  have hw : Region.wanted o (yielded ops a.tmps) = true := by simp [Region.wanted, hgd]
  rw [if_pos hw]
  obtain ⟨v', w', hr, h2, h3, h4⟩ := run_append_zeros_at (P := P) w base t tn o.type e i z bytes kn ht htn hi hz hsize hby hzs hz1 v n xs hown k h63 hbytes hbase
  obtain ⟨ao, cap, rfl⟩ := owns_shape h2
  exact Lib.wp_append_run w s x t tn ho v (.int .i64 k) hs hx _ w' hr (h ao cap w' h2 h3 h4)
end Go.Proofs.YbulkatkuFmt.Nm
