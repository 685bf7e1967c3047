/-
  From the row's list of variables, and from its arguments, to what the walk asks.
-/
import Derived.Test.YbulkatmkFmtLawWalk
import Derived.Deep.SlicePairs
import Derived.Lib.LaidU8
import Derived.Stop.LaidErr
import Derived.ChangeOld
namespace Go.Proofs.YbulkatmkFmt
open Go.ChangeShapes Go.WideShapes Go.ChangeAt Go.RowKit Go.Extern.Stop Go.Stop

section
variable {H : Type} {enc : TypeId × Value → H} {P : Program} {w : World} {base : Nat} {sp : Nat → Bool} {held : Bool}

/-- A struct of one-cell fields, N cells behind an address: each field's cell, and its reading. -/
theorem struct_cells {e : TypeId} {fs : Array Field} {N : Nat} (he : P.underlying e = some (.struct fs)) (hN : fs.size = N) (hf : ∀ (j : Nat) (f : Field), fs[j]? = some f → f.offset = j ∧ P.cellsOf f.type = 1)
    {a : Addr} {i n : Nat} {cs : List Value} {d : DataW H} {p : List MemPlace} (h1 : w.cells? base (a.add (i * N)) N = some cs) (h2 : DataW.trod enc P w base sp held n e cs = some (d, p)) :
    ∃ ds : List (DataW H), d = .agg ds ∧ ds.length = N ∧ ∀ (j : Nat) (f : Field), fs[j]? = some f → ∃ c k y q, w.cell? (a.add (i * N + j)) = some c ∧ ds[j]? = some y ∧ DataW.trod enc P w base sp held k f.type [c] = some (y, q) := by
  obtain ⟨_, hlen, hcell⟩ := World.cells?_some h1
  obtain ⟨xs, k, hk, hxy, _, hxl, hfx⟩ := DataW.trod_struct he h2
  simp only [Prod.mk.injEq] at hxy
  refine ⟨xs.map (·.1), hxy.1, by rw [List.length_map, hxl, hN], fun j f hj => ?_⟩
  obtain ⟨ho, hc⟩ := hf j f hj
  have hjl : j < N := by have := (Array.getElem?_eq_some_iff.1 hj).1; omega
  have hg := hfx j f hj
  have hcj := hcell j (by omega)
  rw [Deep.add_add] at hcj
  have hcs : cs[j]? = some (cs[j]'(by omega)) := by simp [show j < cs.length by omega]
  rw [hcs] at hcj
  have htk : (cs.drop f.offset).take (P.cellsOf f.type) = [cs[j]'(by omega)] := by
    rw [ho, hc, List.drop_eq_getElem_cons (by omega)]
    rfl
  have hx : xs[j]? = some (xs[j]'(by omega)) := by simp [show j < xs.length by omega]
  rw [htk, hx] at hg
  exact ⟨_, k, _, _, hcj, by rw [List.getElem?_map, hx]; rfl, hg⟩
end

/-- A listed sentinel: the pointer, the text behind it, and its block. -/
theorem sentinel_at {P : Program} {n nm : String} {text : List UInt8} {r : List (String × DataW Unit)} {W : World} {g : Nat} {ti tp te ts : TypeId} {ms : Array (String × TypeId)} {f : Field}
    (h : laidMet P ((n, .iface nm (.ptr (.agg [.lit (.string text)]))) :: r) W)
    (hg : P.globalNamed n = some g) (ht : (P.globals[g]?).map (·.type) = some ti) (hi : P.underlying ti = some (.interface ms)) (hrow : ∀ u, P.typeName? 3 u = some nm → u = tp)
    (hp : P.underlying tp = some (.pointer te)) (he : P.underlying te = some (.struct #[f])) (hft : f.type = ts) (hfo : f.offset = 0) (hs : P.underlying ts = some .string) (hc : P.cellsOf te = 1) (hcs : P.cellsOf ts = 1) :
    ∃ (a : Addr) (s : ByteArray) (c : Array Value) (t : TypeId), W.cell? ⟨g, 0, none⟩ = some (.iface tp (.pointer (some a))) ∧ W.cell? a = some (.string s) ∧ W.heap[a.block]? = some (.cells c t (0, 0)) := by
  obtain ⟨ps, ⟨g0, t0, cs0, f0, p0, q0, hg0, ht0, hv0, hd0, _, e0⟩, _, hrows⟩ := h
  obtain rfl := Option.some.inj (hg.symm.trans hg0)
  obtain rfl := Option.some.inj (ht.symm.trans ht0)
  subst e0
  obtain ⟨l0⟩ := cs0
  have ok0 : ∀ u v, l0 = [.iface u v] → Value.okWide P W .any 0 u v := fun u v e => by
    subst e
    exact (hrows g 0 (by simp [MemPlace.row])).2 u v (by simpa using World.var?_cell hg0 hv0 0)
  obtain ⟨a0, s0, rfl, hc0, hs0, hz0, rfl⟩ := errorString_of_trod hi hrow hp he hft hfo hs hc hcs hd0 ok0
  obtain ⟨c, t, hb⟩ := (hrows a0.block a0.off (by simp [MemPlace.row])).1
  exact ⟨a0, s0, c, t, by simpa using World.var?_cell hg0 hv0 0, hc0, hb⟩

theorem cells9 : Ybaf.prog.cellsOf 9 = 1 := by kernel_rfl
theorem cells3 : Ybaf.prog.cellsOf 3 = 1 := by kernel_rfl
theorem cells5 : Ybaf.prog.cellsOf 5 = 1 := by kernel_rfl
theorem cells29 : Ybaf.prog.cellsOf 29 = 5 := by kernel_rfl
theorem cells90 : Ybaf.prog.cellsOf 90 = 3 := by kernel_rfl

theorem str_of {H : Type} {s : ByteArray} {l : List UInt8} {d : DataW H} {p q : List MemPlace} (h : DataW.lit (.string l) = d) (h2 : (d, p) = (DataW.lit (.string s.data.toList), q)) : s = ⟨l.toArray⟩ := by
  subst h
  simp only [Prod.mk.injEq, DataW.lit.injEq, Lit.string.injEq] at h2
  apply ByteArray.ext
  rw [h2.1]

/-- The variable 'settled': where its row begins, and its two strings. -/
theorem settled_at {W : World} {nm : String} (hg : Ybaf.prog.globalNamed nm = some 1) (h : Lib.VarReads Ybaf.prog W nm Rows.laid_example_com_corkline_corkline_ledger_settled) :
    ∃ sb so sc, W.cell? ⟨1, 0, none⟩ = some (.slice (some ⟨sb, so, none⟩) 2 sc) ∧ 2 ≤ sc ∧ W.cell? ⟨sb, so, none⟩ = some (.string sFailed) ∧ W.cell? ⟨sb, so + 1, none⟩ = some (.string sManual) := by
  obtain ⟨g, t, cs, fuel, p, h1, h2, h3, h4⟩ := h
  have ht : (Ybaf.prog.globals[1]?).map (·.type) = some 43 := by kernel_rfl
  obtain rfl := Option.some.inj (hg.symm.trans h1)
  obtain rfl := Option.some.inj (ht.symm.trans h2)
  rcases Deep.open_slice Ybaf.underlying43 h4 with ⟨_, hx⟩ | ⟨a, len, cap, m, n, D, Pl, hcs, _, hl, _, _, hx, hall⟩
  · simp [Rows.laid_example_com_corkline_corkline_ledger_settled] at hx
  · obtain ⟨l⟩ := cs
    simp only at hcs
    subst hcs
    have hc := World.var?_cell hg h3 0
    simp only [Prod.mk.injEq, Rows.laid_example_com_corkline_corkline_ledger_settled, DataW.slice.injEq] at hx
    have hlen : len = 2 := by have := congrArg List.length hx.1.1; simpa using this.symm
    subst hlen
    have e0 := hx.1.1
    simp [List.range_succ] at e0
    have hm : 2 ≤ m := by rename_i hmm; rw [hmm]; simp; omega
    obtain ⟨cs0, c0, t0⟩ := hall 0 (by omega)
    obtain ⟨cs1, c1, t1⟩ := hall 1 (by omega)
    obtain ⟨s0, rfl, e2, _⟩ := DataW.trod_string Ybaf.underlying9 t0
    obtain ⟨s1, rfl, e3, _⟩ := DataW.trod_string Ybaf.underlying9 t1
    simp only [cells9] at c0 c1
    obtain ⟨_, _, k0⟩ := World.cells?_some c0
    obtain ⟨_, _, k1⟩ := World.cells?_some c1
    have k0 := k0 0 (by omega)
    have k1 := k1 0 (by omega)
    obtain ⟨b, off, spot⟩ := a
    have hspot : spot = none := by simpa [Addr.add] using World.cell?_spot k0
    subst hspot
    simp [Addr.add] at k0 k1
    rw [str_of e0.1 e2] at k0
    rw [str_of e0.2 e3] at k1
    exact ⟨b, off, cap, hc, hl, k0, k1⟩

/-- A string's cell, as a string. -/
def strIn (W : World) (a : Addr) : ByteArray := match W.cell? a with
  | some (.string s) => s
  | _ => ⟨#[]⟩
def intIn (W : World) (a : Addr) : Int := match W.cell? a with
  | some (.int _ n) => n
  | _ => 0

theorem strIn_of {W : World} {a : Addr} {s : ByteArray} (h : W.cell? a = some (.string s)) : strIn W a = s := by unfold strIn; rw [h]
theorem intIn_of {W : World} {a : Addr} {k : IntKind} {n : Int} (h : W.cell? a = some (.int k n)) : intIn W a = n := by unfold intIn; rw [h]

theorem fields90 : ∃ fs, Ybaf.prog.underlying 90 = some (.struct fs) ∧ fs.size = 3 ∧ (∀ (j : Nat) (f : Field), fs[j]? = some f → f.offset = j ∧ Ybaf.prog.cellsOf f.type = 1) ∧ ∀ j, j < 3 → ∃ f, f.type = 9 ∧ fs[j]? = some f := by
  refine ⟨_, Ybaf.underlying90, rfl, fun j f h => ?_, fun j hj => ?_⟩
  · match j, h with
    | 0, h => simp at h; subst h; exact ⟨rfl, cells9⟩
    | 1, h => simp at h; subst h; exact ⟨rfl, cells9⟩
    | 2, h => simp at h; subst h; exact ⟨rfl, cells9⟩
    | n + 3, h => simp at h
  · match j, hj with
    | 0, _ => exact ⟨_, rfl, rfl⟩
    | 1, _ => exact ⟨_, rfl, rfl⟩
    | 2, _ => exact ⟨_, rfl, rfl⟩

theorem dues_at {W : World} {nm : String} (hg : Ybaf.prog.globalNamed nm = some 3) (h : Lib.VarReads Ybaf.prog W nm Rows.laid_example_com_corkline_corkline_ledger_dues) :
    ∃ b o c s, DuesAt W b o c s := by
  obtain ⟨g, t, cs, fuel, p, h1, h2, h3, h4⟩ := h
  have ht : (Ybaf.prog.globals[3]?).map (·.type) = some 89 := by kernel_rfl
  obtain rfl := Option.some.inj (hg.symm.trans h1)
  obtain rfl := Option.some.inj (ht.symm.trans h2)
  rcases Deep.open_slice Ybaf.underlying89 h4 with ⟨_, hx⟩ | ⟨a, len, cap, m, n, D, Pl, hcs, _, hl, _, hmm, hx, hall⟩
  · simp [Rows.laid_example_com_corkline_corkline_ledger_dues] at hx
  · obtain ⟨l⟩ := cs
    simp only at hcs
    subst hcs
    have hc := World.var?_cell hg h3 0
    simp only [Prod.mk.injEq, Rows.laid_example_com_corkline_corkline_ledger_dues, DataW.slice.injEq] at hx
    have hlen : len = 3 := by have := congrArg List.length hx.1.1; simpa using this.symm
    subst hlen
    have e0 := hx.1.1
    simp [List.range_succ] at e0
    have hm : 3 ≤ m := by rw [hmm]; simp; omega
    have each : ∀ i j, i < 3 → j < 3 → ∃ s ds, W.cell? (a.add (i * 3 + j)) = some (.string s) ∧ D i = .agg ds ∧ ds[j]? = some (.lit (.string s.data.toList)) := by
      intro i j hi hj
      obtain ⟨cs0, c0, t0⟩ := hall i (by omega)
      simp only [cells90] at c0
      obtain ⟨fs, hu, hN, hff, hft⟩ := fields90
      obtain ⟨ds, hd, _, hf⟩ := struct_cells (N := 3) hu hN hff c0 t0
      obtain ⟨f, hft, hfj⟩ := hft j hj
      obtain ⟨c, k, y, q, hc, hy, ht⟩ := hf j f hfj
      rw [hft] at ht
      obtain ⟨s, hs, e, _⟩ := DataW.trod_string Ybaf.underlying9 ht
      simp only [List.cons.injEq, and_true] at hs
      subst hs
      simp only [Prod.mk.injEq] at e
      rw [e.1] at hy
      exact ⟨s, ds, hc, hd, hy⟩
    obtain ⟨b, off, spot⟩ := a
    have hspot : spot = none := by
      obtain ⟨s, ds, h, _⟩ := each 0 0 (by omega) (by omega)
      simpa [Addr.add] using World.cell?_spot h
    subst hspot
    have cell : ∀ j, j < 9 → W.cell? ⟨b, off + j, none⟩ = some (.string (strIn W ⟨b, off + j, none⟩)) := by
      intro j hj
      obtain ⟨s, ds, h, _⟩ := each (j / 3) (j % 3) (by omega) (by omega)
      rw [show j / 3 * 3 + j % 3 = j by omega] at h
      have h2 : W.cell? ⟨b, off + j, none⟩ = some (.string s) := by rw [add_plain] at h; exact h
      rw [strIn_of h2]
      exact h2
    have head : ∀ i l r, i < 3 → D i = .agg (.lit (.string l) :: r) → strIn W ⟨b, off + i * 3, none⟩ = ⟨l.toArray⟩ := by
      intro i l r hi hD
      obtain ⟨s, ds, h, hd, hs⟩ := each i 0 hi (by omega)
      have h2 : W.cell? ⟨b, off + i * 3, none⟩ = some (.string s) := by rw [add_plain] at h; exact h
      rw [strIn_of h2]
      rw [hD] at hd
      simp only [DataW.agg.injEq] at hd
      rw [← hd] at hs
      simp at hs
      apply ByteArray.ext
      rw [hs]
    exact ⟨b, off, cap, fun j => strIn W ⟨b, off + j, none⟩, hc, cell, head 0 _ _ (by omega) e0.1.symm, head 1 _ _ (by omega) e0.2.1.symm, head 2 _ _ (by omega) e0.2.2.symm⟩

theorem rows104 (x : String) (h : x = Ybaf.nm104) : ((List.range Ybaf.prog.types.size).all fun u => Ybaf.prog.typeName? 3 u != some x || u == 104) = true := by
  subst h
  kernel_rfl

theorem row104 (u : TypeId) (h : Ybaf.prog.typeName? 3 u = some Ybaf.nm104) : u = 104 :=
  typeName_ptr_named (nm := "errors.errorString") (rows104 _ (by decide)) (by kernel_rfl) (by decide) u (h.trans (by decide))

theorem vars_at {F : Interp} {W : World} (hF : F.answers W.tape) (hL : laidMet Ybaf.prog Rows.lawS2246AModelRow.laid W) : ∃ P, VarsAt F P W := by
  obtain ⟨b, o, c, s, hd⟩ := dues_at (by kernel_rfl) (Lib.laidMet.reads hL (.head _))
  obtain ⟨sb, so, sc, h0, h1, h2, h3⟩ := settled_at (by kernel_rfl) (Lib.laidMet.reads hL (.tail _ (.tail _ (.head _))))
  obtain ⟨ea, et, ec, ety, e0, e1, e2⟩ := sentinel_at (g := 0) (tp := 104) (laidMet.tail hL) (by kernel_rfl) (by kernel_rfl) Ybaf.underlying35 row104 Ybaf.underlying104 Ybaf.underlying106 rfl rfl Ybaf.underlying9 (by kernel_rfl) cells9
  exact ⟨⟨0, none, 0, 0, fun _ => 0, [], sb, so, sc, b, o, c, s, ea, et, ec, ety⟩, hF, h0, h1, h2, h3, hd, e0, e1, e2⟩

theorem fields29 : ∃ fs, Ybaf.prog.underlying 29 = some (.struct fs) ∧ fs.size = 5 ∧ (∀ (j : Nat) (f : Field), fs[j]? = some f → f.offset = j ∧ Ybaf.prog.cellsOf f.type = 1) ∧
    (fs[0]?.map (·.type) = some 3 ∧ fs[1]?.map (·.type) = some 5 ∧ fs[2]?.map (·.type) = some 3 ∧ fs[3]?.map (·.type) = some 3 ∧ fs[4]?.map (·.type) = some 9) := by
  refine ⟨_, Ybaf.underlying29, rfl, fun j f h => ?_, rfl, rfl, rfl, rfl, rfl⟩
  match j, h with
  | 0, h => simp at h; subst h; exact ⟨rfl, cells3⟩
  | 1, h => simp at h; subst h; exact ⟨rfl, cells5⟩
  | 2, h => simp at h; subst h; exact ⟨rfl, cells3⟩
  | 3, h => simp at h; subst h; exact ⟨rfl, cells3⟩
  | 4, h => simp at h; subst h; exact ⟨rfl, cells9⟩
  | n + 5, h => simp at h

/-- The law's first argument: a row of its five-cell structs. -/
theorem in_at {H : Type} {enc : TypeId × Value → H} {W : World} {base : Nat} {sp : Nat → Bool} {held : Bool} {fuel : Nat} {a : Option Addr} {len cap : Nat} {x : DataW H × List MemPlace}
    (h : DataW.trod enc Ybaf.prog W base sp held fuel 22 [.slice a len cap] = some x) : ∃ zs, InAt W a len zs := by
  rcases Deep.open_slice Ybaf.underlying22 h with ⟨hcs, _⟩ | ⟨a, len', cap', m, n, D, Pl, hcs, _, hl, _, hmm, _, hall⟩
  · simp at hcs
    exact ⟨fun _ => ⟨0, 0, 0, 0, ⟨#[]⟩⟩, .inl hcs.2.1⟩
  · simp at hcs
    obtain ⟨rfl, rfl, rfl⟩ := hcs
    by_cases h0 : len = 0
    · exact ⟨fun _ => ⟨0, 0, 0, 0, ⟨#[]⟩⟩, .inl h0⟩
    have hm : len ≤ m := by rw [hmm]; split <;> omega
    have each : ∀ i, i < len → (∃ n, W.cell? (a.add (i * 5 + 0)) = some (.int .i64 n)) ∧ (∃ n, W.cell? (a.add (i * 5 + 1)) = some (.int .u8 n)) ∧ (∃ n, W.cell? (a.add (i * 5 + 2)) = some (.int .i64 n)) ∧
        (∃ n, W.cell? (a.add (i * 5 + 3)) = some (.int .i64 n)) ∧ (∃ s, W.cell? (a.add (i * 5 + 4)) = some (.string s)) := by
      intro i hi
      obtain ⟨cs0, c0, t0⟩ := hall i (by omega)
      simp only [cells29] at c0
      obtain ⟨fs, hu, hN, hff, y0, y1, y2, y3, y4⟩ := fields29
      obtain ⟨ds, hd, _, hf⟩ := struct_cells (N := 5) hu hN hff c0 t0
      refine ⟨?_, ?_, ?_, ?_, ?_⟩
      · obtain ⟨f, hfj, hft⟩ := Option.map_eq_some_iff.1 y0
        obtain ⟨c, k, y, q, hc, _, ht⟩ := hf 0 f hfj
        rw [hft] at ht
        obtain ⟨v, e, _⟩ := DataW.trod_int Ybaf.underlying3 ht
        simp at e
        exact ⟨v, by rw [hc, e]⟩
      · obtain ⟨f, hfj, hft⟩ := Option.map_eq_some_iff.1 y1
        obtain ⟨c, k, y, q, hc, _, ht⟩ := hf 1 f hfj
        rw [hft] at ht
        obtain ⟨v, e, _⟩ := DataW.trod_int Ybaf.underlying5 ht
        simp at e
        exact ⟨v, by rw [hc, e]⟩
      · obtain ⟨f, hfj, hft⟩ := Option.map_eq_some_iff.1 y2
        obtain ⟨c, k, y, q, hc, _, ht⟩ := hf 2 f hfj
        rw [hft] at ht
        obtain ⟨v, e, _⟩ := DataW.trod_int Ybaf.underlying3 ht
        simp at e
        exact ⟨v, by rw [hc, e]⟩
      · obtain ⟨f, hfj, hft⟩ := Option.map_eq_some_iff.1 y3
        obtain ⟨c, k, y, q, hc, _, ht⟩ := hf 3 f hfj
        rw [hft] at ht
        obtain ⟨v, e, _⟩ := DataW.trod_int Ybaf.underlying3 ht
        simp at e
        exact ⟨v, by rw [hc, e]⟩
      · obtain ⟨f, hfj, hft⟩ := Option.map_eq_some_iff.1 y4
        obtain ⟨c, k, y, q, hc, _, ht⟩ := hf 4 f hfj
        rw [hft] at ht
        obtain ⟨v, e, _⟩ := DataW.trod_string Ybaf.underlying9 ht
        simp at e
        exact ⟨v, by rw [hc, e]⟩
    obtain ⟨b, off, spot⟩ := a
    have hspot : spot = none := by
      obtain ⟨⟨n, h⟩, _⟩ := each 0 (by omega)
      simpa [Addr.add] using World.cell?_spot h
    subst hspot
    refine ⟨fun i => ⟨intIn W ⟨b, off + i * 5, none⟩, intIn W ⟨b, off + i * 5 + 1, none⟩, intIn W ⟨b, off + i * 5 + 2, none⟩, intIn W ⟨b, off + i * 5 + 3, none⟩, strIn W ⟨b, off + i * 5 + 4, none⟩⟩, .inr ⟨b, off, rfl, fun i hi => ?_⟩⟩
    obtain ⟨⟨n0, h0⟩, ⟨n1, h1⟩, ⟨n2, h2⟩, ⟨n3, h3⟩, ⟨n4, h4⟩⟩ := each i hi
    rw [add_plain, ← Nat.add_assoc] at h0 h1 h2 h3 h4
    simp only [Nat.add_zero] at h0
    constructor
    · show _ = some (Value.int .i64 (intIn W _)); rw [intIn_of h0]; exact h0
    · show _ = some (Value.int .u8 (intIn W _)); rw [intIn_of h1]; exact h1
    · show _ = some (Value.int .i64 (intIn W _)); rw [intIn_of h2]; exact h2
    · show _ = some (Value.int .i64 (intIn W _)); rw [intIn_of h3]; exact h3
    · show _ = some (Value.string (strIn W _)); rw [strIn_of h4]; exact h4
end Go.Proofs.YbulkatmkFmt
