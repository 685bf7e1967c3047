/-
  joinClasses.
-/
import Derived.Test.YbulkatiqJoin2
import Derived.Test.YbulkatiqMergeC
namespace Go.Proofs.Ybulkatiq
open Go.ChangeShapes Go.WideShapes Go.ChangeAt Go.RowKit Go.Maps Go.WideMaps

/-- The result is laid and handed back. -/
theorem join_ret {w wr : World} {tmps : Array Value} {mv v a : Value} {n m : Nat} {of1 of2 : ByteArray → Nat} {fr : List (Nat × Nat)} {j : ByteArray → Nat} (h4 : tmps.getD 4 undef = .pointer (some ⟨w.heap.size + 1 + 1, 0, none⟩)) (h5 : tmps.getD 5 undef = v) (h6 : tmps.getD 6 undef = a)
    (hb : Below w.heap.size w wr) (hr : wr.heap[w.heap.size + 1 + 1]? = some (.cells #[mv, .int .i32 (fr.length : Nat)] 45 (0, 0))) (hc : ClsB 8 wr mv fr.length j) (hp : PairsAt wr v fr) (ha : AtMap wr a fr n m) (hj : ∀ s, fr[j s]? = some (of1 s, of2 s)) (he : ∀ (i k l : Nat), fr[i]? = some (k, l) → k < n ∧ l < m) (h1 : 1 ≤ fr.length) (h9 : fr.length ≤ 9) :
    bodyPost Yba.prog Yba.f24 (JPost w n m of1 of2) Exit.ret ⟨tmps, []⟩ wr := by
  have c0 : wr.cell? ⟨w.heap.size + 1 + 1, 0, none⟩ = some mv := by simp [World.cell?, hr]
  have c1 : wr.cell? ⟨w.heap.size + 1 + 1, 1, none⟩ = some (.int .i32 (fr.length : Nat)) := by simp [World.cell?, hr]
  rw [Array.getD_eq_getD_getElem?] at h4 h5 h6
  refine bodyPost_ret (v := .tuple #[.agg #[mv, .int .i32 (fr.length : Nat)], v, a]) ?_ rfl ⟨mv, v, a, fr, j, rfl, hc, hp, ha, hj, he, h1, h9, hb⟩
  simp [results, Yba.results24, go_sem, c0, c1, h4, h5, h6]

theorem max_run (P : Program) (k : IntKind) (a b : Nat) (ts : Array TypeId) (ty : TypeId) (W : World) : (Builtin.max_ ts ty #[.int k (a : Nat), .int k (b : Nat)]).run P W = .ok (.int k ((max a b : Nat) : Int)) W := by
  rcases Nat.lt_or_ge a b with h | h
  · have h2 : (a : Int) < (b : Int) := by omega
    rw [Nat.max_eq_right (by omega)]
    simp [Builtin.max_, Builtin.max2, h2]
    try omega
  · have h2 : ¬ (a : Int) < (b : Int) := by omega
    rw [Nat.max_eq_left h]
    simp [Builtin.max_, Builtin.max2, h2]
    try omega

theorem JB.c2 {w wr : World} {v1 v2 : Value} {n m base : Nat} (h : JB w wr v1 v2 n m base) : wr.cell? ⟨w.heap.size, 0, none⟩ = some v1 ∧ wr.cell? ⟨w.heap.size, 1, none⟩ = some (.int .i32 (n : Nat)) := by
  unfold World.cell?; rw [h.b2]; exact ⟨rfl, rfl⟩
theorem JB.c3 {w wr : World} {v1 v2 : Value} {n m base : Nat} (h : JB w wr v1 v2 n m base) : wr.cell? ⟨w.heap.size + 1, 0, none⟩ = some v2 ∧ wr.cell? ⟨w.heap.size + 1, 1, none⟩ = some (.int .i32 (m : Nat)) := by
  unfold World.cell?; rw [h.b3]; exact ⟨rfl, rfl⟩
theorem JB.c4 {w wr : World} {v1 v2 : Value} {n m base : Nat} (h : JB w wr v1 v2 n m base) : wr.cell? ⟨w.heap.size + 1 + 1, 0, none⟩ = some (.map none) ∧ wr.cell? ⟨w.heap.size + 1 + 1, 1, none⟩ = some (.int .i32 0) ∧ ∀ j, wr.frozen? ⟨w.heap.size + 1 + 1, j, none⟩ = false := by
  refine ⟨?_, ?_, fun j => by simp [World.frozen?, h.b4]⟩ <;> (unfold World.cell?; rw [h.b4]; rfl)

/-- The end of a case: the partition, the row and no map. -/
theorem join_end {w wr : World} {tmps : Array Value} {v1 v2 mv v a : Value} {n m base fx : Nat} {of1 of2 : ByteArray → Nat} {fr : List (Nat × Nat)} {j : ByteArray → Nat} (hB : JB w wr v1 v2 n m base) (hF : FA wr base fx v fr) (hc : ClsB 8 wr mv fr.length j) (ha : AtMap wr a fr n m) (hj : ∀ s, fr[j s]? = some (of1 s, of2 s)) (he : ∀ (i k l : Nat), fr[i]? = some (k, l) → k < n ∧ l < m) (h1 : 1 ≤ fr.length) (h9 : fr.length ≤ 9)
    (h4 : tmps.getD 4 undef = .pointer (some ⟨w.heap.size + 1 + 1, 0, none⟩)) (h5 : tmps.getD 5 undef = v) (h6 : tmps.getD 6 undef = a) :
    bodyPost Yba.prog Yba.f24 (JPost w n m of1 of2) Exit.ret ⟨tmps, []⟩ ((wr.setCell ⟨w.heap.size + 1 + 1, 0, none⟩ mv).setCell ⟨w.heap.size + 1 + 1, 1, none⟩ (.int .i32 (fr.length : Nat))).drew := by
  have hg : wr.grownBy ((wr.setCell ⟨w.heap.size + 1 + 1, 0, none⟩ mv).setCell ⟨w.heap.size + 1 + 1, 1, none⟩ (.int .i32 (fr.length : Nat))) (some (w.heap.size + 1 + 1)) := grown_setCell (grown_setCell (World.grownBy.refl wr _))
  have g0 := heap_setCell_same wr (w.heap.size + 1 + 1) 0 _ 45 mv hB.b4
  have g1 := heap_setCell_same _ (w.heap.size + 1 + 1) 1 _ 45 (.int .i32 (fr.length : Nat)) g0
  have hb := hB.bel.grown hg hB.bel.size (fun k hk => by simp only [Option.some.injEq] at hk; omega)
  have hd : Below ((wr.setCell ⟨w.heap.size + 1 + 1, 0, none⟩ mv).setCell ⟨w.heap.size + 1 + 1, 1, none⟩ (.int .i32 (fr.length : Nat))).heap.size _ ((wr.setCell ⟨w.heap.size + 1 + 1, 0, none⟩ mv).setCell ⟨w.heap.size + 1 + 1, 1, none⟩ (.int .i32 (fr.length : Nat))).drew := Below.drew (Below.refl _ _)
  have hp := pairs_own (hF.own.kept hg (.inr (own_ne_cells hF.own hB.b4 (by decide)))) h1
  have ha' : AtMap ((wr.setCell ⟨w.heap.size + 1 + 1, 0, none⟩ mv).setCell ⟨w.heap.size + 1 + 1, 1, none⟩ (.int .i32 (fr.length : Nat))) a fr n m := by
    rcases ha with h1 | ⟨b, N, D, rfl, ho, hd⟩
    · exact .inl h1
    · obtain ⟨es, c, hm⟩ := mapBlk ho
      exact .inr ⟨b, N, D, rfl, ho.kept hg (fun e => ne_mc hm hB.b4 (Option.some.inj e)), hd⟩
  exact join_ret h4 h5 h6 (below_chain hb hd) g1 ((hc.grown hg hB.b4).below hd) (hp.below hd) (ha'.below hd) hj he h1 h9

theorem rangeP1 (k : Nat) : (List.range (k + 1)).map (fun k => ((k, 0) : Nat × Nat)) = (List.range k).map (fun k => (k, 0)) ++ [(k, 0)] := by simp [List.range_succ]
theorem rangeP1_get {n i : Nat} (h : i < n) : ((List.range n).map (fun k => ((k, 0) : Nat × Nat)))[i]? = some (i, 0) := by simp [h]
theorem rangeP1_inv {n i k l : Nat} (h : ((List.range n).map (fun k => ((k, 0) : Nat × Nat)))[i]? = some (k, l)) : k = i ∧ l = 0 ∧ i < n := by
  have hi := (List.getElem?_eq_some_iff.1 h).1
  simp at hi
  rw [rangeP1_get hi] at h
  simp at h
  exact ⟨h.1.symm, h.2.symm, hi⟩
theorem rangeP2_get {n i : Nat} (h : i < n) : ((List.range n).map (fun k => ((0, k) : Nat × Nat)))[i]? = some (0, i) := by simp [h]
theorem rangeP2_inv {n i k l : Nat} (h : ((List.range n).map (fun k => ((0, k) : Nat × Nat)))[i]? = some (k, l)) : k = 0 ∧ l = i ∧ i < n := by
  have hi := (List.getElem?_eq_some_iff.1 h).1
  simp at hi
  rw [rangeP2_get hi] at h
  simp at h
  exact ⟨h.1.symm, h.2.symm, hi⟩
theorem rangeP2 (k : Nat) : (List.range (k + 1)).map (fun k => ((0, k) : Nat × Nat)) = (List.range k).map (fun k => (0, k)) ++ [(0, k)] := by simp [List.range_succ]

theorem ClsB.mono {B B' n : Nat} {w : World} {v : Value} {of : ByteArray → Nat} (h : ClsB B w v n of) (hB : B ≤ B') : ClsB B' w v n of := by
  refine ⟨h.lt, ?_⟩
  rcases h.shape with h1 | ⟨b, N, D, h1, ho, hN, hd⟩
  · exact .inl h1
  · exact .inr ⟨b, N, D, h1, ho, by omega, hd⟩

theorem numAt_nil : NumAt (.map []) [] := fun k l _ _ => ⟨⟨(fun h => nomatch h), (fun h => nomatch h)⟩, (fun i h => by simp at h)⟩

/-- The first pair is laid: the variables stand. -/
theorem JS.start {W W5 W6 : World} {base jx jm fx : Nat} {v v' : Value} (hF : FA W base fx v []) (hj : W.heap[jx]? = some (.cells #[.map (some jm), .int .i32 1] 45 (0, 0))) (hm : W.ownsMap Yba.prog 9 (plainElem (H := Unit) Yba.prog 21) jm 0 (.map [])) (hjx : base ≤ jx) (hjm : base ≤ jm) (hg : W.grownBy W5 v.ownBlock) (ho : W5.ownsRow base 75 2 v' 1 (cellsP [(0, 0)]))
    (hg6 : ((W5.setCell ⟨fx, 0, none⟩ v').alloc (.map #[] 0)).grownBy W6 (some (W5.setCell ⟨fx, 0, none⟩ v').heap.size)) (hn : W6.ownsMap Yba.prog 75 (plainElem (H := Unit) Yba.prog 21) (W5.setCell ⟨fx, 0, none⟩ v').heap.size 1 ((DataW.map []).put (pk2 0 0) (.lit (.int .i32 0)))) :
    JS (W6.alloc (.cells #[.map (some (W5.setCell ⟨fx, 0, none⟩ v').heap.size)] 67)) base W6.heap.size (W5.setCell ⟨fx, 0, none⟩ v').heap.size jx jm fx v' 1 [(0, 0)] 1 ((DataW.map []).put (pk2 0 0) (.lit (.int .i32 0))) 0 (.map []) ∧ Below base W (W6.alloc (.cells #[.map (some (W5.setCell ⟨fx, 0, none⟩ v').heap.size)] 67)) ∧ W5.heap[fx]? = some (.cells #[v] 66 (0, 0)) := by
  obtain ⟨hF5, hb5, hfx⟩ := hF.app (fr' := [(0, 0)]) hg ho
  have hj5 : W5.heap[jx]? = some (.cells #[.map (some jm), .int .i32 1] 45 (0, 0)) := (hg.block _ (lt_of_block hj) (fun e => own_ne_cells hF.own hj (by decide) e.symm)).trans hj
  obtain ⟨es, c, hmb⟩ := mapBlk hm
  have hm5 := hm.kept hg (fun e => own_ne_map hF.own hmb e.symm)
  have hgs : W5.grownBy (W5.setCell ⟨fx, 0, none⟩ v') (some fx) := grown_setCell (World.grownBy.refl W5 _)
  obtain ⟨es5, c5, hmb5⟩ := mapBlk hm5
  have hj6 := (hgs.block _ (lt_of_block hj5) (fun e => ne_cc hj5 hfx (by decide) (Option.some.inj e))).trans hj5
  have hm6 := hm5.kept hgs (fun e => ne_mc hmb5 hfx (Option.some.inj e))
  generalize W5.setCell ⟨fx, 0, none⟩ v' = Wb at *
  have hba : Below Wb.heap.size Wb (Wb.alloc (.map #[] 0)) := below_al (Below.refl _ _) _
  have hlt : ∀ b, b < Wb.heap.size → some b ≠ some Wb.heap.size := fun b hb e => by cases e; omega
  have hb6 : Below Wb.heap.size Wb W6 := hba.grown hg6 (by simp) (fun k hk => by simp only [Option.some.injEq] at hk; omega)
  have hb7 : Below W6.heap.size W6 (W6.alloc (.cells #[.map (some Wb.heap.size)] 67)) := below_al (Below.refl _ _) _
  have hb67 := below_chain hb6 hb7
  have hF7 := hF5.below hb67
  have hsz := hb6.size
  refine ⟨⟨heap_new W6 _, (hb67.block _ (lt_of_block hj6)).trans hj6, hF7.vf, hF7.own, hn.kept (Below.grownBy hb7 none) (by simp), hm6.kept (Below.grownBy hb67 none) (by simp), ?_, hF5.far.2, hjx, hjm, hF5.far.1, hF7.far.2⟩, hb5.trans (hb67.mono hF5.far.2), hfx⟩
  have := hm6.lt
  omega

theorem look2 {W : World} {b N : Nat} {D : DataW Unit} {of : ByteArray → Nat} (ho : W.ownsMap Yba.prog 9 (plainElem (H := Unit) Yba.prog 21) b N D) (hd : ∀ s : ByteArray, D.atKey (.string s.data.toList) (.lit (.int .i32 0)) = .lit (.int .i32 (of s : Nat))) (x : ByteArray) (hx : x.size ≤ maxLen) :
    (Instr.lookup 43 (.map (some b)) (.string x) true).run Yba.prog W = .ok (.tuple #[.int .i32 (of x : Nat), .bool (Maps.has D (.string x.data.toList))]) W := by
  obtain ⟨lv, ps, hlk, hlv⟩ := ho.look_ok klaw Yba.underlying43 (zero21 _) (plainElem_int Yba.underlying21 (wf_i32 (k := 0) (by omega))) (keyOf_string_mk Yba.underlying9 hx)
  obtain ⟨lc, rfl, hlc, _⟩ := plainElem_int_inv Yba.underlying21 hlv
  simp only [Prod.mk.injEq] at hlc
  have e := (hd x).symm.trans hlc.1
  simp only [DataW.lit.injEq, Lit.int.injEq, true_and] at e
  rw [hlk, e]

set_option maxRecDepth 100000 in
set_option maxHeartbeats 6400000 in
theorem joinClasses24 {w : World} {v1 v2 : Value} {n m B : Nat} {of1 of2 : ByteArray → Nat} (h1 : ClsB B w v1 n of1) (h2 : ClsB B w v2 m of2) (hB : B ≤ 4) (hn1 : 1 ≤ n) (hn4 : n ≤ 4) (hm1 : 1 ≤ m) (hm4 : m ≤ 4) :
    Calls Yba.prog 24 #[.agg #[v1, .int .i32 (n : Nat)], .agg #[v2, .int .i32 (m : Nat)]] w (JPost w n m of1 of2) := by
  obtain ⟨i0, hi0, hz0, hz1, hz2⟩ := info_parts info75
  have H1 := hid h1
  have H2 := hid h2
  clear h1 h2
  obtain ⟨mx, hmx⟩ : ∃ mx, mx = max n m := ⟨_, rfl⟩
  have hmx4 : mx ≤ 4 := by omega
  have hmax : ∀ W ty, (Builtin.max_ #[21, 21] ty #[.int .i32 (n : Nat), .int .i32 (m : Nat)]).run Yba.prog W = .ok (.int .i32 (mx : Nat)) W := fun W ty => by rw [hmx]; exact max_run _ _ _ _ _ _ _
  clear hmx
  obtain ⟨o1, ho1⟩ := H1.out.isMap
  obtain ⟨o2, ho2⟩ := H2.out.isMap
  subst ho1
  subst ho2
  go_enter Yba.func24, Yba.ntmps24
  go_wp2_with (at_make; refine wpList_make_own _ rfl _ _ 66 rfl (w.heap.size + 3) 75 i0 _ 2 Yba.underlying66 hi0 hz0 hz1 .i64 .i32 (mx : Int) mx rfl rfl rfl ?b2 ?b3 ?b4 ?_)
  case b2 => rw [hz2]; omega
  case b3 => unfold maxLen; omega
  case b4 => simp
  intro w1 hrow hgr
  have HJF := hid (show JB w (w1.alloc (.cells #[.slice (some ⟨w.heap.size + 1 + 1 + 1, 0, none⟩) 0 mx] 66)) (.map o1) (.map o2) n m (w.heap.size + 3) ∧ FA (w1.alloc (.cells #[.slice (some ⟨w.heap.size + 1 + 1 + 1, 0, none⟩) 0 mx] 66)) (w.heap.size + 3) w1.heap.size (.slice (some ⟨w.heap.size + 1 + 1 + 1, 0, none⟩) 0 mx) [] from by
    have q2 := heap_old (o := .cells #[.map none, .int .i32 0] 45) (heap_old (o := .cells #[.map o2, .int .i32 (m : Nat)] 45) (heap_new w (.cells #[.map o1, .int .i32 (n : Nat)] 45)))
    have q3 := heap_old (o := .cells #[.map none, .int .i32 0] 45) (heap_new1 w (.cells #[.map o1, .int .i32 (n : Nat)] 45) (.cells #[.map o2, .int .i32 (m : Nat)] 45))
    have q4 := heap_new ((w.alloc (.cells #[.map o1, .int .i32 (n : Nat)] 45)).alloc (.cells #[.map o2, .int .i32 (m : Nat)] 45)) (.cells #[.map none, .int .i32 0] 45)
    rw [show ((w.alloc (.cells #[.map o1, .int .i32 (n : Nat)] 45)).alloc (.cells #[.map o2, .int .i32 (m : Nat)] 45)).heap.size = w.heap.size + 1 + 1 by simp] at q4
    have hb0 : Below w.heap.size w (((w.alloc (.cells #[.map o1, .int .i32 (n : Nat)] 45)).alloc (.cells #[.map o2, .int .i32 (m : Nat)] 45)).alloc (.cells #[.map none, .int .i32 0] 45)) := below_al (below_al (below_al (Below.refl _ _) _) _) _
    have hs0 : (((w.alloc (.cells #[.map o1, .int .i32 (n : Nat)] 45)).alloc (.cells #[.map o2, .int .i32 (m : Nat)] 45)).alloc (.cells #[.map none, .int .i32 0] 45)).heap.size = w.heap.size + 3 := by simp
    generalize (((w.alloc (.cells #[.map o1, .int .i32 (n : Nat)] 45)).alloc (.cells #[.map o2, .int .i32 (m : Nat)] 45)).alloc (.cells #[.map none, .int .i32 0] 45)) = W0 at *
    have hb1 : Below W0.heap.size W0 w1 := (Below.refl _ _).grown hgr (Nat.le_refl _) (fun k hk => by cases hk)
    have hb2 : Below w1.heap.size w1 (w1.alloc (.cells #[.slice (some ⟨w.heap.size + 1 + 1 + 1, 0, none⟩) 0 mx] 66)) := below_al (Below.refl _ _) _
    have hb3 := below_chain hb1 hb2
    have hsz := hb1.size
    refine ⟨⟨below_chain hb0 hb3, (hb3.block _ (by omega)).trans q2, (hb3.block _ (by omega)).trans q3, (hb3.block _ (by omega)).trans q4, Nat.le_refl _⟩, heap_new w1 _, hrow.kept (Below.grownBy hb2 none) (by simp [Value.ownBlock]), by omega, by simp; omega⟩)
  clear hrow hgr
  go_upto_region 2 with fail
  generalize w1.alloc (.cells #[.slice (some ⟨w.heap.size + 1 + 1 + 1, 0, none⟩) 0 mx] 66) = W2 at HJF ⊢
  generalize w1.heap.size = fx at HJF ⊢
  generalize hv0 : (Value.slice (some ⟨w.heap.size + 1 + 1 + 1, 0, none⟩) 0 mx) = vs0 at HJF
  have HV0 := hid (show ∃ a c, vs0 = Value.slice a 0 c from ⟨_, _, hv0.symm⟩)
  clear hv0
  obtain ⟨c20, c21⟩ := HJF.out.1.c2
  obtain ⟨c30, c31⟩ := HJF.out.1.c3
  cases g1 : ((m : Int) == 1)
  · cases g2 : ((n : Int) == 1)
    · have hn2 : n ≠ 1 := by simp at g2; omega
      have hm2 : m ≠ 1 := by simp at g1; omega
      rcases H1.out.shape with ⟨_, _, hc⟩ | ⟨b1, N1, D1, hb1e, hown1, hN1, hd1⟩
      · omega
      rcases H2.out.shape with ⟨_, _, hc⟩ | ⟨b2, N2, D2, hb2e, hown2, hN2, hd2⟩
      · omega
      simp only [Value.map.injEq] at hb1e hb2e
      subst hb1e
      subst hb2e
      have hs1 : Maps.size D1 ≤ N1 := by
        obtain ⟨es, clock, _, _, hs, rfl⟩ := hown1
        unfold Maps.size
        simp [length_sorted]
        exact hs
      have hs2 : Maps.size D2 ≤ N2 := by
        obtain ⟨es, clock, _, _, hs, rfl⟩ := hown2
        unfold Maps.size
        simp [length_sorted]
        exact hs
      have hl1 := (hown1.kept (Below.grownBy HJF.out.1.bel none) (by simp)).len Yba.underlying43
      have hl2 := (hown2.kept (Below.grownBy HJF.out.1.bel none) (by simp)).len Yba.underlying43
      obtain ⟨sm, hsm⟩ : ∃ sm, sm = max (Maps.size D1) (Maps.size D2) := ⟨_, rfl⟩
      have hsm8 : sm ≤ 4096 := by omega
      have hmax2 : ∀ W ty, (Builtin.max_ #[3, 3] ty #[.int .i64 (Maps.size D1 : Nat), .int .i64 (Maps.size D2 : Nat)]).run Yba.prog W = .ok (.int .i64 (sm : Nat)) W := fun W ty => by rw [hsm]; exact max_run _ _ _ _ _ _ _
      have hmk : ∀ W : World, (Instr.makeMap 43 (some (.int .i64 (sm : Nat)))).run Yba.prog W = .ok (.map (some W.heap.size)) (W.alloc (.map #[] 0)) := fun W => makeMap_hint43 W _ hsm8
      clear hsm
      have HO1 := hid hown1
      have HO2 := hid hown2
      have HD1 := hid hd1
      have HD2 := hid hd2
      clear hown1 hown2 hd1 hd2
      go_upto_region 17 with fail
      clear hl1 hl2 hmax2 hmk c20 c21 c30 c31 hmax
      have HX := hid (show FA ((W2.alloc (.map #[] 0)).alloc (.cells #[.map (some W2.heap.size), .int .i32 1] 45)) (w.heap.size + 3) fx vs0 [] ∧ JB w ((W2.alloc (.map #[] 0)).alloc (.cells #[.map (some W2.heap.size), .int .i32 1] 45)) (.map (some b1)) (.map (some b2)) n m (w.heap.size + 3) ∧ ((W2.alloc (.map #[] 0)).alloc (.cells #[.map (some W2.heap.size), .int .i32 1] 45)).heap[W2.heap.size + 1]? = some (.cells #[.map (some W2.heap.size), .int .i32 1] 45 (0, 0)) ∧ ((W2.alloc (.map #[] 0)).alloc (.cells #[.map (some W2.heap.size), .int .i32 1] 45)).ownsMap Yba.prog 9 (plainElem (H := Unit) Yba.prog 21) W2.heap.size 0 (.map []) ∧ w.heap.size + 3 ≤ W2.heap.size from by
        have hb : Below W2.heap.size W2 ((W2.alloc (.map #[] 0)).alloc (.cells #[.map (some W2.heap.size), .int .i32 1] 45)) := below_al (below_al (Below.refl _ _) _) _
        exact ⟨HJF.out.2.below hb, HJF.out.1.fr (hb.mono HJF.out.2.far.2), heap_new1 _ _ _, (World.ownsMap_made W2 Yba.prog 9 (plainElem (H := Unit) Yba.prog 21)).alloc _, HJF.out.2.far.2⟩)
      clear HJF
      generalize (W2.alloc (.map #[] 0)).alloc (.cells #[.map (some W2.heap.size), .int .i32 1] 45) = Wa at HX ⊢
      generalize hjx : W2.heap.size + 1 = jx at HX ⊢
      generalize hjm : W2.heap.size = jm at HX hjx ⊢
      obtain ⟨a0, cv0, hv0⟩ := HV0.out
      subst hv0
      have y2 : Wa.cell? ⟨fx, 0, none⟩ = some (.slice a0 0 cv0) := by simp [World.cell?, HX.out.1.vf]
      go_wp2_with (at_builtin; refine wpList_append_own_at _ rfl _ _ 66 rfl (w.heap.size + 3) 75 i0 (.agg #[.int .i32 0, .int .i32 0]) 2 8 Yba.underlying66 hi0 hz0 hz1 hz2 rfl (by decide) (.slice a0 0 cv0) 0 [] rfl ?own ⟨Wa.heap.size, 0, none⟩ 1 1 [.int .i32 0, .int .i32 0] rfl rfl ?d1 ?d2 ?d3 ?d4 ?d5 ?_)
      case own => exact HX.out.1.own.alloc _
      case d1 => exact two_new Wa _ _ 75
      case d2 => intro u hu; simp at hu; rcases hu with rfl | rfl <;> rfl
      case d3 => unfold maxLen; omega
      case d4 => omega
      case d5 => have := HX.out.1.far.2; simp; omega
      intro v' w5 hown5 hgr5 _ _
      have hb3 : Below Wa.heap.size Wa (Wa.alloc (.cells #[.int .i32 0, .int .i32 0] 75)) := below_al (Below.refl _ _) _
      have hrow5 : w5.ownsRow (w.heap.size + 3) 75 2 v' 1 (cellsP [(0, 0)]) := hown5
      obtain ⟨ao', cv', hv'⟩ := owns_shape hrow5
      subst hv'
      obtain ⟨w6, hrun, hnum6, hg6⟩ := (World.ownsMap_made (w5.setCell ⟨fx, 0, none⟩ (.slice ao' 1 cv')) Yba.prog 75 (plainElem (H := Unit) Yba.prog 21)).update (key := .agg #[.int .i32 ((0 : Nat) : Int), .int .i32 ((0 : Nat) : Int)]) (val := .int .i32 ((0 : Nat) : Int)) nlaw Yba.underlying67 (by unfold maxLen; omega) (key75 (k := 0) (l := 0) (by omega) (by omega)) (plainElem_int Yba.underlying21 (wf_i32 (by omega)))
      obtain ⟨hjs, hbe, hfx5⟩ := JS.start (HX.out.1.below hb3) ((hb3.block _ (lt_of_block HX.out.2.2.1)).trans HX.out.2.2.1) (HX.out.2.2.2.1.alloc _) (by have := HX.out.2.2.2.2; omega) (by have := HX.out.2.2.2.2; omega) hgr5 hrow5 hg6 hnum6
      have q0 : w5.cell? ⟨fx, 0, none⟩ = some (.slice a0 0 cv0) := by simp [World.cell?, hfx5]
      have q1 : ∀ j, w5.frozen? ⟨fx, j, none⟩ = false := fun j => by simp [World.frozen?, hfx5]
      have hmm := @run_makeMap Yba.prog
      have HJS := hid hjs
      have hbw := HX.out.2.1.fr (hb3.mono HX.out.1.far.2)
      have HJB := hid (hbw.fr hbe)
      clear hown5 hgr5 hrow5 hjs hbe hfx5 hb3 y2 hbw hnum6 hg6
      simp only [Int.natCast_zero] at hrun
      have esz : (w5.setCell ⟨fx, 0, none⟩ (.slice ao' 1 cv')).heap.size = w5.heap.size := by simp [World.setCell]
      rw [esz] at hrun HJS HJB
      go_upto_region 19 with fail
      clear hrun esz q0 q1 hmm HX hjx hjm hi0 hz0 hz1 hz2
      have HL0 := hid (show JL w (w6.alloc (.cells #[.map (some w5.heap.size)] 67)) (.map (some b1)) (.map (some b2)) n m (w.heap.size + 3) w6.heap.size w5.heap.size jx jm fx of1 of2 (fun s => Maps.has D1 (.string s.data.toList) && !Maps.has D1 (.string s.data.toList)) (.slice ao' 1 cv') [(0, 0)] 1 ((DataW.map []).put (pk2 0 0) (.lit (.int .i32 0))) 0 (.map []) (Maps.size D1 + Maps.size D2) from
        ⟨HJB.out, HJS.out, numAt_nil.put ⟨[], rfl⟩ (by omega) (by omega) (by simp), rfl, (fun i k l hi => by
          have h0 := (List.getElem?_eq_some_iff.1 hi).1
          simp at h0
          subst h0
          simp at hi
          omega), (fun s => ⟨0, rfl, by simp⟩), by simp; omega⟩)
      clear HJB HJS
      generalize w6.alloc (.cells #[.map (some w5.heap.size)] 67) = W7 at HL0 ⊢
      generalize w6.heap.size = nx at HL0 ⊢
      generalize w5.heap.size = nm at HL0 ⊢
      generalize (Value.slice ao' 1 cv') = vv at HL0
      obtain ⟨c20, _⟩ := HL0.out.jb.c2
      have hor := HO1.out.kept (Below.grownBy HL0.out.jb.bel none) (by simp)
      have hb1l := HO1.out.lt
      have hb2l := HO2.out.lt
      go_wp2_with (first
        | (at_range; refine wpList_range_own _ rfl _ 43 rfl 9 21 klaw Yba.underlying43 _ b1 N1 _ rfl hor ?_; intro w0 hrg0 hg0 hs0)
        | go_in)
      go_frame
      have hr1 := HL0.out.js.far.2.2.2.2
      have HL := hid (show JL w w0 (.map (some b1)) (.map (some b2)) n m (w.heap.size + 3) nx nm jx jm fx of1 of2 (fun s => Maps.has D1 (.string s.data.toList) && !Maps.has D1 (.string s.data.toList)) vv [(0, 0)] 1 ((DataW.map []).put (pk2 0 0) (.lit (.int .i32 0))) 0 (.map []) (Maps.size D1 + Maps.size D2) from
        have hbg : Below W7.heap.size W7 w0 := (Below.refl _ _).grown hg0 (Nat.le_refl _) (fun k hk => by cases hk)
        ⟨HL0.out.jb.fr (hbg.mono hr1), HL0.out.js.below hbg, HL0.out.at_, HL0.out.f0, HL0.out.each, HL0.out.con, HL0.out.cnt⟩)
      have HRG := hid hrg0
      clear HL0 c20 hor hrg0 hg0 hs0
      generalize W7.heap.size = r1 at HRG hr1 ⊢
      go_loopw [13] (fun _ wr => ∃ left c v fr Nn Dn Nj Dj, JL w wr (.map (some b1)) (.map (some b2)) n m (w.heap.size + 3) nx nm jx jm fx of1 of2 (fun s => Maps.has D1 (.string s.data.toList) && !left (.string s.data.toList)) v fr Nn Dn Nj Dj (c + Maps.size D2) ∧ wr.ranges Yba.prog 9 (plainElem (H := Unit) Yba.prog 21) b1 r1 N1 D1 left c) (fun _ wr => wr.rangeLeft b1 r1)
      case atStart => exact ⟨_, _, _, _, _, _, _, _, HL.out, HRG.out⟩
      case round =>
        obtain ⟨left, c, v, fr, Nn, Dn, Nj, Dj, hjl, hrg⟩ := hrel
        clear HL HRG
        have HL := hid hjl
        clear hjl
        have HRG := hid hrg
        go_wp2_with (first
          | (at_next; refine next_si rfl _ rfl b1 _ N1 _ _ _ rfl hrg of1 HD1.out ?_ ?_)
          | go_in)
        · intro hc0 hl0
          have HL2 := hid (show JL w wr (.map (some b1)) (.map (some b2)) n m (w.heap.size + 3) nx nm jx jm fx of1 of2 (fun s => Maps.has D1 (.string s.data.toList) || (Maps.has D2 (.string s.data.toList) && !Maps.has D2 (.string s.data.toList))) v fr Nn Dn Nj Dj (Maps.size D2) from
            ⟨HL.out.jb, HL.out.js, HL.out.at_, HL.out.f0, HL.out.each, (fun s => by
              have := HL.out.con s
              simp only [hl0, Bool.not_false, Bool.and_true] at this
              simpa using this), by have := HL.out.cnt; omega⟩)
          clear HL HRG hrg hl0 hc0
          obtain ⟨c30, _⟩ := HL2.out.jb.c3
          have hor := HO2.out.kept (Below.grownBy HL2.out.jb.bel none) (by simp)
          go_wp2_with (first
            | (at_range; refine wpList_range_own _ rfl _ 43 rfl 9 21 klaw Yba.underlying43 _ b2 N2 _ rfl hor ?_; intro w0 hrg0 hg0 hs0)
            | go_in)
          go_frame
          have hr2 := HL2.out.js.far.2.2.2.2
          have HL := hid (show JL w w0 (.map (some b1)) (.map (some b2)) n m (w.heap.size + 3) nx nm jx jm fx of1 of2 (fun s => Maps.has D1 (.string s.data.toList) || (Maps.has D2 (.string s.data.toList) && !Maps.has D2 (.string s.data.toList))) v fr Nn Dn Nj Dj (Maps.size D2) from
            have hbg : Below wr.heap.size wr w0 := (Below.refl _ _).grown hg0 (Nat.le_refl _) (fun k hk => by cases hk)
            ⟨HL2.out.jb.fr (hbg.mono hr2), HL2.out.js.below hbg, HL2.out.at_, HL2.out.f0, HL2.out.each, HL2.out.con, HL2.out.cnt⟩)
          have HRG := hid hrg0
          clear HL2 c30 hor hrg0 hg0 hs0
          generalize wr.heap.size = r2 at HRG hr2 ⊢
          go_loopw [15] (fun _ wr => ∃ left c v fr Nn Dn Nj Dj, JL w wr (.map (some b1)) (.map (some b2)) n m (w.heap.size + 3) nx nm jx jm fx of1 of2 (fun s => Maps.has D1 (.string s.data.toList) || (Maps.has D2 (.string s.data.toList) && !left (.string s.data.toList))) v fr Nn Dn Nj Dj c ∧ wr.ranges Yba.prog 9 (plainElem (H := Unit) Yba.prog 21) b2 r2 N2 D2 left c) (fun _ wr => wr.rangeLeft b2 r2)
          case atStart => exact ⟨_, _, _, _, _, _, _, _, HL.out, HRG.out⟩
          case round =>
            obtain ⟨left, c, v, fr, Nn, Dn, Nj, Dj, hjl, hrg⟩ := hrel
            clear HL HRG
            have HL := hid hjl
            clear hjl
            have HRG := hid hrg
            go_wp2_with (first
              | (at_next; refine next_si rfl _ rfl b2 _ N2 _ _ _ rfl hrg of2 HD2.out ?_ ?_)
              | go_in)
            · intro hc0 hl0
              have HC := hid (show ∀ s : ByteArray, ∃ jn : Nat, Dj.atKey (.string s.data.toList) (.lit (.int .i32 0)) = .lit (.int .i32 (jn : Nat)) ∧ fr[jn]? = some (of1 s, of2 s) from fun s => by
                obtain ⟨jn, q1, q2⟩ := HL.out.con s
                refine ⟨jn, q1, ?_⟩
                rw [q2]
                simp only [hl0, Bool.not_false, Bool.and_true]
                cases e1 : Maps.has D1 (.string s.data.toList)
                · cases e2 : Maps.has D2 (.string s.data.toList)
                  · have z1 := HD1.out s
                    have z2 := HD2.out s
                    rw [atKey_of_not_has e1] at z1
                    rw [atKey_of_not_has e2] at z2
                    simp only [DataW.lit.injEq, Lit.int.injEq, true_and] at z1 z2
                    simp
                    omega
                  · simp
                · simp)
              clear HRG hrg hl0 hc0
              obtain ⟨ao, cv, hv⟩ := owns_shape HL.out.js.own
              subst hv
              obtain ⟨c40, c41, c4f⟩ := HL.out.jb.c4
              have dj0 : wr.drew.cell? ⟨jx, 0, none⟩ = some (.map (some jm)) := by show wr.cell? _ = _; simp [World.cell?, HL.out.js.vj]
              have dj1 : wr.drew.cell? ⟨jx, 1, none⟩ = some (.int .i32 (fr.length : Nat)) := by show wr.cell? _ = _; simp [World.cell?, HL.out.js.vj]
              have dn : wr.drew.cell? ⟨nx, 0, none⟩ = some (.map (some nm)) := by show wr.cell? _ = _; simp [World.cell?, HL.out.js.vn]
              have df : wr.drew.cell? ⟨fx, 0, none⟩ = some (.slice ao fr.length cv) := by show wr.cell? _ = _; simp [World.cell?, HL.out.js.vf]
              have ej0 : wr.cell? ⟨jx, 0, none⟩ = some (.map (some jm)) := dj0
              have ej1 : wr.cell? ⟨jx, 1, none⟩ = some (.int .i32 (fr.length : Nat)) := dj1
              have en : wr.cell? ⟨nx, 0, none⟩ = some (.map (some nm)) := dn
              have ef : wr.cell? ⟨fx, 0, none⟩ = some (.slice ao fr.length cv) := df
              have d40 : wr.drew.cell? ⟨w.heap.size + 1 + 1, 0, none⟩ = some (.map none) := c40
              have d41 : wr.drew.cell? ⟨w.heap.size + 1 + 1, 1, none⟩ = some (.int .i32 0) := c41
              have d4f : ∀ j, wr.drew.frozen? ⟨w.heap.size + 1 + 1, j, none⟩ = false := c4f
              have n1 : jx ≠ w.heap.size + 1 + 1 := by have := HL.out.js.far; omega
              have n2 : fx ≠ w.heap.size + 1 + 1 := by have := HL.out.js.far; omega
              have n3 : nx ≠ w.heap.size + 1 + 1 := ne_cc HL.out.js.vn HL.out.jb.b4 (by decide)
              have hcn := HL.out.cnt
              have hpos : 1 ≤ fr.length := by have := (List.getElem?_eq_some_iff.1 HL.out.f0).1; omega
              have hend := fun t h4 h5 h6 => join_end (tmps := t) (of1 := of1) (of2 := of2) (j := fun s => (HC.out s).choose) (a := .map (some nm)) (mv := .map (some jm)) (fx := fx) HL.out.jb ⟨HL.out.js.vf, HL.out.js.own, HL.out.js.far.2.2.2.1, HL.out.js.far.2.2.2.2⟩
                ⟨fun s => (List.getElem?_eq_some_iff.1 (HC.out s).choose_spec.2).1, .inr ⟨jm, Nj, Dj, rfl, HL.out.js.jmap, by omega, fun s => (HC.out s).choose_spec.1⟩⟩
                (.inr ⟨nm, Nn, Dn, rfl, HL.out.js.num, HL.out.at_⟩) (fun s => (HC.out s).choose_spec.2) HL.out.each hpos (by omega) h4 h5 h6
              have HEND := hid hend
              clear hend
              go_upto_region 30 with fail
              go_region
              all_goals go_wp2_with fail
              all_goals exact HEND.out _ rfl rfl rfl
            · intro x w1 cnt1 hxs hlx hhx hrg1 hlt1 hg1 hs1 hen
              have hox1 := H1.out.lt x
              have hox2 := H2.out.lt x
              have hit : ∃ a b c d, wr.heap[r2]? = some (Obj.mapIter a b c d) := by
                obtain ⟨_, _, _, _, _, _, _, _, _, h5, _⟩ := hrg
                exact ⟨_, _, _, _, h5⟩
              have hl1 := HL.out.skip (fun _ => rfl) (Nat.le_refl _) hg1 hr2 hit
              have HL1 := hid hl1
              obtain ⟨c20, _⟩ := hl1.jb.c2
              have hlk := look2 (HO1.out.kept (Below.grownBy hl1.jb.bel none) (by simp)) HD1.out x hxs
              have hcnt := hl1.cnt
              have hkx : (Lit.string x.data.toList).sameKey (.string x.data.toList) = true := WideAt.sameKey_self (by simp [WideAt.IsKeyLit])
              have HRG1 := hid hrg1
              have HLX := hid hlx
              have HHX := hid hhx
              have HKX := hid hkx
              cases hh1 : Maps.has D1 (.string x.data.toList)
              · have ho0 : of1 x = 0 := by
                  have z1 := HD1.out x
                  rw [atKey_of_not_has hh1] at z1
                  simp only [DataW.lit.injEq, Lit.int.injEq, true_and] at z1
                  omega
                have hput := put29 hl1.js hl1.at_ (by have := (List.getElem?_eq_some_iff.1 hl1.f0).1; omega) (by omega) (by omega) (by omega) hxs (k := of1 x) (l := of2 x) (by omega) (by omega)
                rw [hh1] at hlk
                have HP := hid (show Calls Yba.prog 29 #[.string x, .agg #[.int .i32 0, .int .i32 (of2 x : Nat)], .pointer (some ⟨nx, 0, none⟩), .pointer (some ⟨jx, 0, none⟩), .pointer (some ⟨fx, 0, none⟩)] w1 (PutPost w1 (w.heap.size + 3) nx nm jx jm fx fr Nn Nj Dj x (of1 x) (of2 x)) from by rw [ho0] at hput ⊢; exact hput)
                have HH1 := hid hh1
                clear hl1 hg1 hs1 hit hrg hhx hlx hrg1 hkx hput ho0 hh1
                go_wp2_with fail
                refine HP.out.mono ?_
                rintro e wp hp
                obtain ⟨rfl, hpf, v', fr', Nn', Dn', Nj', Dj', hjl'⟩ := HL1.out.put (fin' := fun s => Maps.has D1 (.string s.data.toList) || (Maps.has D2 (.string s.data.toList) && !(left (.string s.data.toList) && !(Lit.string s.data.toList).sameKey (.string x.data.toList)))) (c' := cnt1) hp hox1 hox2 (by omega) (by simp [HLX.out, HH1.out]) (by simp [HHX.out, HKX.out]) (fun s hs => by
                  have : (Lit.string s.data.toList).sameKey (.string x.data.toList) = false := sameKey_ne (fun e => hs (ba_inj (by simpa using e)))
                  simp [this])
                have hrg2 := ranges_fr HRG1.out hpf (show b2 < w.heap.size + 3 by omega)
                have HL2 := hid hjl'
                have HRG2 := hid hrg2
                clear hp hpf hjl' hrg2
                go_wp2_with fail
                go_roundw
                case rel => exact ⟨_, _, _, _, _, _, _, _, HL2.out, HRG2.out⟩
                case measure => rw [HRG2.out.left_eq, HRG.out.left_eq]; exact hlt1
              · rw [hh1] at hlk
                have HL2 := hid (show JL w w1 (.map (some b1)) (.map (some b2)) n m (w.heap.size + 3) nx nm jx jm fx of1 of2 (fun s => Maps.has D1 (.string s.data.toList) || (Maps.has D2 (.string s.data.toList) && !(left (.string s.data.toList) && !(Lit.string s.data.toList).sameKey (.string x.data.toList)))) v fr Nn Dn Nj Dj cnt1 from
                  ⟨hl1.jb, hl1.js, hl1.at_, hl1.f0, hl1.each, (fun s => by
                    obtain ⟨jn, q1, q2⟩ := hl1.con s
                    refine ⟨jn, q1, ?_⟩
                    rw [q2]
                    by_cases es : s = x
                    · subst es
                      simp [hh1]
                    · have : (Lit.string s.data.toList).sameKey (.string x.data.toList) = false := sameKey_ne (fun e => es (ba_inj (by simpa using e)))
                      simp [this]), by omega⟩)
                clear hl1 hg1 hs1 hit hrg hhx hlx hrg1 hkx hh1
                go_wp2_with fail
                go_roundw
                case rel => exact ⟨_, _, _, _, _, _, _, _, HL2.out, HRG1.out⟩
                case measure => rw [HRG1.out.left_eq, HRG.out.left_eq]; exact hlt1
        · intro x w1 cnt1 hxs hlx hhx hrg1 hlt1 hg1 hs1 hen
          have hox1 := H1.out.lt x
          have hox2 := H2.out.lt x
          have hit : ∃ a b c d, wr.heap[r1]? = some (Obj.mapIter a b c d) := by
            obtain ⟨_, _, _, _, _, _, _, _, _, h5, _⟩ := hrg
            exact ⟨_, _, _, _, h5⟩
          have hl1 := HL.out.skip (fun _ => rfl) (Nat.le_refl _) hg1 hr1 hit
          have HL1 := hid hl1
          obtain ⟨c30, _⟩ := hl1.jb.c3
          have hlk := (H2.out.below hl1.jb.bel).look x hxs
          have hcnt := hl1.cnt
          have HP := hid (put29 hl1.js hl1.at_ (by have := (List.getElem?_eq_some_iff.1 hl1.f0).1; omega) (by omega) (by omega) (by omega) hxs (k := of1 x) (l := of2 x) (by omega) (by omega))
          have hkx : (Lit.string x.data.toList).sameKey (.string x.data.toList) = true := WideAt.sameKey_self (by simp [WideAt.IsKeyLit])
          have HHX := hid hhx
          have HLX := hid hlx
          have HRG1 := hid hrg1
          have HKX := hid hkx
          clear hl1 hg1 hs1 hit hrg hhx hlx hrg1 hkx
          go_wp2_with fail
          refine HP.out.mono ?_
          rintro e wp hp
          obtain ⟨rfl, hpf, v', fr', Nn', Dn', Nj', Dj', hjl'⟩ := HL1.out.put (fin' := fun s => Maps.has D1 (.string s.data.toList) && !(left (.string s.data.toList) && !(Lit.string s.data.toList).sameKey (.string x.data.toList))) (c' := cnt1 + Maps.size D2) hp hox1 hox2 (by omega) (by simp [HLX.out]) (by simp [HHX.out, HKX.out]) (fun s hs => by
            have : (Lit.string s.data.toList).sameKey (.string x.data.toList) = false := sameKey_ne (fun e => hs (ba_inj (by simpa using e)))
            simp [this])
          have hrg2 := ranges_fr HRG1.out hpf (show b1 < w.heap.size + 3 by omega)
          have HL2 := hid hjl'
          have HRG2 := hid hrg2
          clear hp hpf hjl' hrg2
          go_wp2_with fail
          go_roundw
          case rel => exact ⟨_, _, _, _, _, _, _, _, HL2.out, HRG2.out⟩
          case measure => rw [HRG2.out.left_eq, HRG.out.left_eq]; exact hlt1
    · have hm : n = 1 := by simp at g2; omega
      have HM := hid hm
      clear hm hmax
      go_wp2_with fail
      clear c20 c21 c30 c31
      go_loopw [48] (fun vk wr => ∃ (k : Nat) (v : Value), k ≤ m ∧ vk = .int .i32 k ∧ JB w wr (.map o1) (.map o2) n m (w.heap.size + 3) ∧ FA wr (w.heap.size + 3) fx v ((List.range k).map (fun k => (0, k)))) (fun vk _ => m - (intOf vk).toNat)
      case atStart => exact ⟨0, vs0, by omega, rfl, HJF.out.1, HJF.out.2⟩
      case round =>
        obtain ⟨k, v, hk, rfl, hjb, hfa⟩ := hrel
        clear HJF
        have HJ := hid hjb
        have HF := hid hfa
        clear hjb hfa
        obtain ⟨fr, hfr⟩ : ∃ fr, fr = (List.range k).map (fun k => ((0, k) : Nat × Nat)) := ⟨_, rfl⟩
        have hlen : fr.length = k := by rw [hfr]; simp
        rw [← hfr] at HF
        have own' := HF.out.own
        rw [hlen] at own'
        obtain ⟨ao, cv, hv⟩ := owns_shape own'
        subst hv
        have HO := hid own'
        have HL := hid hlen
        have HFR := hid hfr
        clear hlen hfr own'
        have y2 : wr.cell? ⟨fx, 0, none⟩ = some (.slice ao k cv) := by simp [World.cell?, HF.out.vf]
        rcases Nat.lt_or_ge k m with hlt | hge
        · have t1 : (k : Int) < (m : Int) := by omega
          go_wp2_with (at_builtin; refine wpList_append_own_at _ rfl _ _ 66 rfl (w.heap.size + 3) 75 i0 (.agg #[.int .i32 0, .int .i32 0]) 2 8 Yba.underlying66 hi0 hz0 hz1 hz2 rfl (by decide) (.slice ao k cv) k (cellsP fr) rfl ?own ⟨wr.heap.size, 0, none⟩ 1 1 [.int .i32 0, .int .i32 (k : Nat)] rfl rfl ?d1 ?d2 ?d3 ?d4 ?d5 ?_)
          case own => exact HO.out.alloc _
          case d1 => exact two_new wr _ _ 75
          case d2 => intro u hu; simp at hu; rcases hu with rfl | rfl <;> rfl
          case d3 => unfold maxLen; omega
          case d4 => omega
          case d5 => have := HF.out.far.2; simp; omega
          intro v' w5 hown5 hgr5 _ _
          have hb3 : Below wr.heap.size wr (wr.alloc (.cells #[.int .i32 0, .int .i32 (k : Nat)] 75)) := below_al (Below.refl _ _) _
          have hrow5 : w5.ownsRow (w.heap.size + 3) 75 2 v' (fr ++ [(0, k)]).length (cellsP (fr ++ [(0, k)])) := by
            rw [cellsP_append, List.length_append, HL.out]
            exact hown5
          obtain ⟨hfa6, hbe6, hfx5⟩ := (HF.out.below hb3).app hgr5 hrow5
          obtain ⟨ao', cv', hv'⟩ := owns_shape hrow5
          obtain ⟨L, hL⟩ : ∃ L, L = (fr ++ [(0, k)]).length := ⟨_, rfl⟩
          rw [← hL] at hv'
          subst hv'
          clear hL
          have q0 : w5.cell? ⟨fx, 0, none⟩ = some (.slice ao k cv) := by simp [World.cell?, hfx5]
          have q1 : ∀ j, w5.frozen? ⟨fx, j, none⟩ = false := fun j => by simp [World.frozen?, hfx5]
          have HJ6 := hid ((HJ.out.fr (hb3.mono HF.out.far.2)).fr hbe6)
          have HF6 := hid (show FA (w5.setCell ⟨fx, 0, none⟩ (.slice ao' L cv')) (w.heap.size + 3) fx (.slice ao' L cv') ((List.range (k + 1)).map (fun k => (0, k))) from by rw [rangeP2, ← HFR.out]; exact hfa6)
          clear hown5 hgr5 hrow5 hfa6 hbe6 hfx5 hb3 y2
          go_wp2_with fail
          go_roundw
          case rel => exact ⟨k + 1, _, by omega, by simp, HJ6.out, HF6.out⟩
          case measure => simp [intOf]; omega
        · have hkn : k = m := by omega
          subst hkn
          have t1 : ¬ (k : Int) < (k : Int) := by omega
          obtain ⟨c20, c21⟩ := HJ.out.c3
          obtain ⟨c40, c41, c4f⟩ := HJ.out.c4
          have d20 : wr.drew.cell? ⟨w.heap.size + 1, 0, none⟩ = some (.map o2) := c20
          have d21 : wr.drew.cell? ⟨w.heap.size + 1, 1, none⟩ = some (.int .i32 (k : Nat)) := c21
          have d40 : wr.drew.cell? ⟨w.heap.size + 1 + 1, 0, none⟩ = some (.map none) := c40
          have d41 : wr.drew.cell? ⟨w.heap.size + 1 + 1, 1, none⟩ = some (.int .i32 0) := c41
          have d4f : ∀ j, wr.drew.frozen? ⟨w.heap.size + 1 + 1, j, none⟩ = false := c4f
          have dfx : wr.drew.cell? ⟨fx, 0, none⟩ = some (.slice ao k cv) := y2
          have hfxne : fx ≠ w.heap.size + 1 + 1 := by have := HF.out.far.1; omega
          have hne : w.heap.size + 1 ≠ w.heap.size + 1 + 1 := by omega
          go_upto_region 15 with fail
          go_region
          all_goals go_wp2_with fail
          have e0 := HL.out
          have hfr := HFR.out
          have hend := fun t h4 h5 h6 => join_end (tmps := t) (of1 := of1) (of2 := of2) (j := of2) (a := .map none) (mv := .map o2) HJ.out HF.out (by rw [e0]; exact (H2.out.below HJ.out.bel).mono (by omega)) (.inl ⟨rfl, .inl HM.out⟩)
            (fun s => by
              have q1 := H1.out.lt s
              have q2 := H2.out.lt s
              have q3 := HM.out
              rw [hfr, rangeP2_get q2, show of1 s = 0 by omega])
            (fun i k' l hi => by
              rw [hfr] at hi
              obtain ⟨rfl, rfl, hin⟩ := rangeP2_inv hi
              exact ⟨by omega, hin⟩) (by omega) (by omega) h4 h5 h6
          rw [e0] at hend
          exact hend _ rfl rfl rfl
  · have hm : m = 1 := by simp at g1; omega
    have HM := hid hm
    clear hm hmax
    go_wp2_with fail
    clear c20 c21 c30 c31
    go_loopw [31] (fun vk wr => ∃ (k : Nat) (v : Value), k ≤ n ∧ vk = .int .i32 k ∧ JB w wr (.map o1) (.map o2) n m (w.heap.size + 3) ∧ FA wr (w.heap.size + 3) fx v ((List.range k).map (fun k => (k, 0)))) (fun vk _ => n - (intOf vk).toNat)
    case atStart => exact ⟨0, vs0, by omega, rfl, HJF.out.1, HJF.out.2⟩
    case round =>
      obtain ⟨k, v, hk, rfl, hjb, hfa⟩ := hrel
      clear HJF
      have HJ := hid hjb
      have HF := hid hfa
      clear hjb hfa
      obtain ⟨fr, hfr⟩ : ∃ fr, fr = (List.range k).map (fun k => ((k, 0) : Nat × Nat)) := ⟨_, rfl⟩
      have hlen : fr.length = k := by rw [hfr]; simp
      rw [← hfr] at HF
      have own' := HF.out.own
      rw [hlen] at own'
      obtain ⟨ao, cv, hv⟩ := owns_shape own'
      subst hv
      have HO := hid own'
      have HL := hid hlen
      have HFR := hid hfr
      clear hlen hfr own'
      have y2 : wr.cell? ⟨fx, 0, none⟩ = some (.slice ao k cv) := by simp [World.cell?, HF.out.vf]
      rcases Nat.lt_or_ge k n with hlt | hge
      · have t1 : (k : Int) < (n : Int) := by omega
        go_wp2_with (at_builtin; refine wpList_append_own_at _ rfl _ _ 66 rfl (w.heap.size + 3) 75 i0 (.agg #[.int .i32 0, .int .i32 0]) 2 8 Yba.underlying66 hi0 hz0 hz1 hz2 rfl (by decide) (.slice ao k cv) k (cellsP fr) rfl ?own ⟨wr.heap.size, 0, none⟩ 1 1 [.int .i32 (k : Nat), .int .i32 0] rfl rfl ?d1 ?d2 ?d3 ?d4 ?d5 ?_)
        case own => exact HO.out.alloc _
        case d1 => exact two_new wr _ _ 75
        case d2 => intro u hu; simp at hu; rcases hu with rfl | rfl <;> rfl
        case d3 => unfold maxLen; omega
        case d4 => omega
        case d5 => have := HF.out.far.2; simp; omega
        intro v' w5 hown5 hgr5 _ _
        have hb3 : Below wr.heap.size wr (wr.alloc (.cells #[.int .i32 (k : Nat), .int .i32 0] 75)) := below_al (Below.refl _ _) _
        have hrow5 : w5.ownsRow (w.heap.size + 3) 75 2 v' (fr ++ [(k, 0)]).length (cellsP (fr ++ [(k, 0)])) := by
          rw [cellsP_append, List.length_append, HL.out]
          exact hown5
        obtain ⟨hfa6, hbe6, hfx5⟩ := (HF.out.below hb3).app hgr5 hrow5
        obtain ⟨ao', cv', hv'⟩ := owns_shape hrow5
        obtain ⟨L, hL⟩ : ∃ L, L = (fr ++ [(k, 0)]).length := ⟨_, rfl⟩
        rw [← hL] at hv'
        subst hv'
        clear hL
        have q0 : w5.cell? ⟨fx, 0, none⟩ = some (.slice ao k cv) := by simp [World.cell?, hfx5]
        have q1 : ∀ j, w5.frozen? ⟨fx, j, none⟩ = false := fun j => by simp [World.frozen?, hfx5]
        have HJ6 := hid ((HJ.out.fr (hb3.mono HF.out.far.2)).fr hbe6)
        have HF6 := hid (show FA (w5.setCell ⟨fx, 0, none⟩ (.slice ao' L cv')) (w.heap.size + 3) fx (.slice ao' L cv') ((List.range (k + 1)).map (fun k => (k, 0))) from by rw [rangeP1, ← HFR.out]; exact hfa6)
        clear hown5 hgr5 hrow5 hfa6 hbe6 hfx5 hb3 y2
        go_wp2_with fail
        go_roundw
        case rel => exact ⟨k + 1, _, by omega, by simp, HJ6.out, HF6.out⟩
        case measure => simp [intOf]; omega
      · have hkn : k = n := by omega
        subst hkn
        have t1 : ¬ (k : Int) < (k : Int) := by omega
        obtain ⟨c20, c21⟩ := HJ.out.c2
        obtain ⟨c40, c41, c4f⟩ := HJ.out.c4
        have d20 : wr.drew.cell? ⟨w.heap.size, 0, none⟩ = some (.map o1) := c20
        have d21 : wr.drew.cell? ⟨w.heap.size, 1, none⟩ = some (.int .i32 (k : Nat)) := c21
        have d40 : wr.drew.cell? ⟨w.heap.size + 1 + 1, 0, none⟩ = some (.map none) := c40
        have d41 : wr.drew.cell? ⟨w.heap.size + 1 + 1, 1, none⟩ = some (.int .i32 0) := c41
        have d4f : ∀ j, wr.drew.frozen? ⟨w.heap.size + 1 + 1, j, none⟩ = false := c4f
        have dfx : wr.drew.cell? ⟨fx, 0, none⟩ = some (.slice ao k cv) := y2
        have hfxne : fx ≠ w.heap.size + 1 + 1 := by have := HF.out.far.1; omega
        have hne : w.heap.size ≠ w.heap.size + 1 + 1 := by omega
        go_upto_region 8 with fail
        go_region
        all_goals go_wp2_with fail
        have e0 := HL.out
        have hfr := HFR.out
        have hend := fun t h4 h5 h6 => join_end (tmps := t) (of1 := of1) (of2 := of2) (j := of1) (a := .map none) (mv := .map o1) HJ.out HF.out (by rw [e0]; exact (H1.out.below HJ.out.bel).mono (by omega)) (.inl ⟨rfl, .inr HM.out⟩)
          (fun s => by
            have q1 := H1.out.lt s
            have q2 := H2.out.lt s
            have q3 := HM.out
            rw [hfr, rangeP1_get q1, show of2 s = 0 by omega])
          (fun i k' l hi => by
            rw [hfr] at hi
            obtain ⟨rfl, rfl, hin⟩ := rangeP1_inv hi
            exact ⟨hin, by omega⟩) (by omega) (by omega) h4 h5 h6
        rw [e0] at hend
        exact hend _ rfl rfl rfl
end Go.Proofs.Ybulkatiq
