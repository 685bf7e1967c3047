/-
  joinClasses: 'put'.
-/
import Derived.Test.YbulkatiqJoin1
namespace Go.Proofs.Ybulkatiq
open Go.ChangeShapes Go.WideShapes Go.ChangeAt Go.RowKit Go.Maps Go.WideMaps

def PutPost (W : World) (base nx nm jx jm fx : Nat) (fr : List (Nat × Nat)) (Nn Nj : Nat) (Dj : DataW Unit) (x : ByteArray) (k l : Nat) (e : Ending) (w' : World) : Prop :=
  e = .returned (.tuple #[]) ∧ ∃ v' fr' i Nn' Dn' Nj' Dj', JS w' base nx nm jx jm fx v' fr'.length fr' Nn' Dn' Nj' Dj' ∧ NumAt Dn' fr' ∧ (fr' = fr ∨ fr' = fr ++ [(k, l)]) ∧ fr'[i]? = some (k, l) ∧ (i = 0 ∧ Dj' = Dj ∨ i ≠ 0 ∧ Dj' = Dj.put (.string x.data.toList) (.lit (.int .i32 (i : Nat)))) ∧ Nn' ≤ Nn + 1 ∧ Nj' ≤ Nj + 1 ∧ PutFr base W w'

section
variable {W W' : World} {base nx nm jx jm fx n Nn Nj : Nat} {v : Value} {fr : List (Nat × Nat)} {Dn Dj : DataW Unit}

theorem own_ne_map {b : Nat} {es : Array MapEntry} {c : Nat} (h : W.ownsRow base 75 2 v n (cellsP fr)) (hb : W.heap[b]? = some (.map es c)) : v.ownBlock ≠ some b := fun e => by
  rcases h.2 with ⟨rfl, _⟩ | ⟨g, cap, cur, rfl, _, hgg, _⟩
  · cases e
  · simp only [Value.ownBlock, Option.some.injEq] at e
    rw [e, hb] at hgg
    cases hgg
theorem own_ne_cells {b : Nat} {cs : Array Value} {t : TypeId} {f : Nat × Nat} (h : W.ownsRow base 75 2 v n (cellsP fr)) (hb : W.heap[b]? = some (.cells cs t f)) (ht : t ≠ 75) : v.ownBlock ≠ some b := fun e => by
  rcases h.2 with ⟨rfl, _⟩ | ⟨g, cap, cur, rfl, _, hgg, _⟩
  · cases e
  · simp only [Value.ownBlock, Option.some.injEq] at e
    rw [e, hb] at hgg
    cases hgg
    exact ht rfl

theorem JS.jput (h : JS W base nx nm jx jm fx v n fr Nn Dn Nj Dj) {Nj' : Nat} {Dj' : DataW Unit} (hg : W.grownBy W' (some jm)) (ho : W'.ownsMap Yba.prog 9 (plainElem (H := Unit) Yba.prog 21) jm Nj' Dj') : JS W' base nx nm jx jm fx v n fr Nn Dn Nj' Dj' ∧ PutFr base W W' := by
  obtain ⟨es, c, hm⟩ := mapBlk h.jmap
  obtain ⟨o1, o2, o3, o4, o5, _, o7⟩ := h.other hg
  obtain ⟨f1, f2, f3, f4, f5⟩ := h.far
  exact ⟨⟨o1 (ne_mc hm h.vn).symm, o2 (ne_mc hm h.vj).symm, o3 (ne_mc hm h.vf).symm, o4 (own_ne_map h.own hm), o5 h.ne, ho, h.ne, f1, f2, f3, f4, o7⟩, PutFr.grown hg f3 f5 (fun a b c d e => by rw [hm] at e; cases e)⟩

theorem JS.nput (h : JS W base nx nm jx jm fx v n fr Nn Dn Nj Dj) {Nn' : Nat} {Dn' : DataW Unit} (hg : W.grownBy W' (some nm)) (ho : W'.ownsMap Yba.prog 75 (plainElem (H := Unit) Yba.prog 21) nm Nn' Dn') : JS W' base nx nm jx jm fx v n fr Nn' Dn' Nj Dj ∧ PutFr base W W' := by
  obtain ⟨es, c, hm⟩ := mapBlk h.num
  obtain ⟨o1, o2, o3, o4, _, o6, o7⟩ := h.other hg
  obtain ⟨f1, f2, f3, f4, f5⟩ := h.far
  exact ⟨⟨o1 (ne_mc hm h.vn).symm, o2 (ne_mc hm h.vj).symm, o3 (ne_mc hm h.vf).symm, o4 (own_ne_map h.own hm), ho, o6 h.ne.symm, h.ne, f1, f2, f3, f4, o7⟩, PutFr.grown hg f1 f5 (fun a b c d e => by rw [hm] at e; cases e)⟩

theorem JS.setn (h : JS W base nx nm jx jm fx v n fr Nn Dn Nj Dj) (n' : Nat) : JS (W.setCell ⟨jx, 1, none⟩ (.int .i32 (n' : Nat))) base nx nm jx jm fx v n' fr Nn Dn Nj Dj ∧ PutFr base W (W.setCell ⟨jx, 1, none⟩ (.int .i32 (n' : Nat))) := by
  have hg : W.grownBy (W.setCell ⟨jx, 1, none⟩ (.int .i32 (n' : Nat))) (some jx) := grown_setCell (World.grownBy.refl W _)
  obtain ⟨es, c, hm⟩ := mapBlk h.num
  obtain ⟨es2, c2, hm2⟩ := mapBlk h.jmap
  obtain ⟨o1, _, o3, o4, o5, o6, o7⟩ := h.other hg
  obtain ⟨f1, f2, f3, f4, f5⟩ := h.far
  have g := heap_setCell_same W jx 1 _ 45 (.int .i32 (n' : Nat)) h.vj
  exact ⟨⟨o1 (ne_cc h.vn h.vj (by decide)), g, o3 (ne_cc h.vf h.vj (by decide)), o4 (own_ne_cells h.own h.vj (by decide)), o5 (ne_mc hm h.vj), o6 (ne_mc hm2 h.vj), h.ne, f1, f2, f3, f4, o7⟩, PutFr.grown hg f2 f5 (fun a b c d e => by rw [h.vj] at e; cases e)⟩

theorem JS.app (h : JS W base nx nm jx jm fx v n fr Nn Dn Nj Dj) {v' : Value} {fr' : List (Nat × Nat)} (hg : W.grownBy W' v.ownBlock) (ho : W'.ownsRow base 75 2 v' fr'.length (cellsP fr')) : (JS (W'.setCell ⟨fx, 0, none⟩ v') base nx nm jx jm fx v' n fr' Nn Dn Nj Dj ∧ PutFr base W (W'.setCell ⟨fx, 0, none⟩ v')) ∧ W'.heap[fx]? = some (.cells #[v] 66 (0, 0)) := by
  obtain ⟨es, c, hm⟩ := mapBlk h.num
  obtain ⟨es2, c2, hm2⟩ := mapBlk h.jmap
  obtain ⟨f1, f2, f3, f4, f5⟩ := h.far
  have hk : ∀ b o, W.heap[b]? = some o → v.ownBlock ≠ some b → W'.heap[b]? = some o := fun b o hb hne => (hg.block b (lt_of_block hb) (fun e => hne e.symm)).trans hb
  have a1 := hk _ _ h.vn (own_ne_cells h.own h.vn (by decide))
  have a2 := hk _ _ h.vj (own_ne_cells h.own h.vj (by decide))
  have a3 := hk _ _ h.vf (own_ne_cells h.own h.vf (by decide))
  have a5 := h.num.kept hg (fun e => own_ne_map h.own hm e.symm)
  have a6 := h.jmap.kept hg (fun e => own_ne_map h.own hm2 e.symm)
  have hg2 : W'.grownBy (W'.setCell ⟨fx, 0, none⟩ v') (some fx) := grown_setCell (World.grownBy.refl W' _)
  have g := heap_setCell_same W' fx 0 _ 66 v' a3
  obtain ⟨es', c', hm'⟩ := mapBlk a5
  obtain ⟨es2', c2', hm2'⟩ := mapBlk a6
  have hsz := hg.size
  have hpf : PutFr base W W' := by
    refine ⟨(Below.refl _ _).grown hg f5 (fun k hk => (h.own.lt k hk).1), fun r a b c d hr => hk r _ hr (fun e => ?_)⟩
    rcases h.own.2 with ⟨rfl, _⟩ | ⟨g, cap, cur, rfl, _, hgg, _⟩
    · cases e
    · simp only [Value.ownBlock, Option.some.injEq] at e
      rw [e, hr] at hgg
      cases hgg
  refine ⟨⟨⟨(hg2.block _ (lt_of_block a1) (fun e => ne_cc a1 a3 (by decide) (Option.some.inj e))).trans a1, (hg2.block _ (lt_of_block a2) (fun e => ne_cc a2 a3 (by decide) (Option.some.inj e))).trans a2, g, ho.kept hg2 (.inr (own_ne_cells ho a3 (by decide))), a5.kept hg2 (fun e => ne_mc hm' a3 (Option.some.inj e)), a6.kept hg2 (fun e => ne_mc hm2' a3 (Option.some.inj e)), h.ne, f1, f2, f3, f4, Nat.le_trans (Nat.le_trans f5 hsz) hg2.size⟩, hpf.trans (PutFr.grown hg2 f4 (Nat.le_trans f5 hsz) (fun a b c d e => by rw [a3] at e; cases e))⟩, a3⟩
end

theorem wrap32s' {x y : Nat} (hxy : y = x + 1) (h : y ≤ 65536) : IntKind.i32.wrap ((x : Int) + 1) = (y : Int) := by
  simp [IntKind.wrap, IntKind.bits, IntKind.signed]
  omega

set_option maxRecDepth 100000 in
set_option maxHeartbeats 3200000 in
theorem put29 {W : World} {base nx nm jx jm fx Nn Nj : Nat} {v : Value} {fr : List (Nat × Nat)} {Dn Dj : DataW Unit} (h : JS W base nx nm jx jm fx v fr.length fr Nn Dn Nj Dj) (hnum : NumAt Dn fr) (hpos : 0 < fr.length) (hle : fr.length ≤ 512) (hNn : Nn ≤ 512) (hNj : Nj ≤ 512) {x : ByteArray} (hx : x.size ≤ maxLen) {k l : Nat} (hk : k ≤ 1024) (hl : l ≤ 1024) :
    Calls Yba.prog 29 #[.string x, .agg #[.int .i32 (k : Nat), .int .i32 (l : Nat)], .pointer (some ⟨nx, 0, none⟩), .pointer (some ⟨jx, 0, none⟩), .pointer (some ⟨fx, 0, none⟩)] W (PutPost W base nx nm jx jm fx fr Nn Nj Dj x k l) := by
  have hb1 : Below W.heap.size W (W.alloc (.cells #[.int .i32 (k : Nat), .int .i32 (l : Nat)] 75)) := below_al (Below.refl _ _) _
  have h1 := h.below hb1
  have z0 := new2_0' W (.int .i32 (k : Nat)) (.int .i32 (l : Nat)) 75
  have z1 := new2_1' W (.int .i32 (k : Nat)) (.int .i32 (l : Nat)) 75
  have hpf1 := PutFr.below (base := base) hb1 h.far.2.2.2.2
  have cn : ∀ X : World, X.heap[nx]? = some (.cells #[.map (some nm)] 67 (0, 0)) → X.cell? ⟨nx, 0, none⟩ = some (.map (some nm)) := fun X hX => by simp [World.cell?, hX]
  have cj : ∀ (X : World) (m : Nat), X.heap[jx]? = some (.cells #[.map (some jm), .int .i32 (m : Nat)] 45 (0, 0)) → X.cell? ⟨jx, 0, none⟩ = some (.map (some jm)) ∧ X.cell? ⟨jx, 1, none⟩ = some (.int .i32 (m : Nat)) ∧ ∀ j, X.frozen? ⟨jx, j, none⟩ = false := fun X m hX => ⟨by simp [World.cell?, hX], by simp [World.cell?, hX], fun j => by simp [World.frozen?, hX]⟩
  have CN := hid cn
  have CJ := hid cj
  clear cn cj
  obtain ⟨lv, ps, hlk, hlv⟩ := h1.num.look_ok nlaw Yba.underlying67 (zero21 _) (plainElem_int Yba.underlying21 (wf_i32 (k := 0) (by omega))) (key75 hk hl)
  obtain ⟨lc, rfl, hlc, _⟩ := plainElem_int_inv Yba.underlying21 hlv
  simp only [Prod.mk.injEq] at hlc
  have hlc := hlc.1
  obtain ⟨hm1, hm2⟩ := hnum k l hk hl
  have c1 := CN.out _ h1.vn
  obtain ⟨c2, c3, c4⟩ := CJ.out _ _ h1.vj
  have H1 := hid h1
  have HP1 := hid hpf1
  have HNUM := hid hnum
  clear h h1 hb1 hpf1 hnum hlv
  go_enter Yba.func29, Yba.ntmps29
  cases hf : Maps.has Dn (pk2 k l)
  · -- a new pair
    have hno : (k, l) ∉ fr := fun hm => by rw [hm1.2 hm] at hf; cases hf
    rw [hf] at hlk
    have HNO := hid hno
    clear hno hm1 hm2 hlc hf
    obtain ⟨n1, hn1⟩ : ∃ n1, n1 = fr.length + 1 := ⟨_, rfl⟩
    have hw1 := wrap32s' hn1 (by omega)
    have HN1 := hid hn1
    clear hn1
    have hz1 := heap_new W (.cells #[.int .i32 (k : Nat), .int .i32 (l : Nat)] 75)
    go_upto_region 3 with fail
    generalize W.alloc (.cells #[.int .i32 (k : Nat), .int .i32 (l : Nat)] 75) = W1 at *
    generalize W.heap.size = bx at *
    obtain ⟨w2, hrun, hown, hg⟩ := H1.out.num.drew.update (key := .agg #[.int .i32 (k : Nat), .int .i32 (l : Nat)]) (val := .int .i32 (fr.length : Nat)) nlaw Yba.underlying67 (by unfold maxLen; omega) (key75 hk hl) (plainElem_int Yba.underlying21 (wf_i32 (by omega)))
    obtain ⟨hjs2, hpf2⟩ := (H1.out.below (Below.drew (Below.refl _ _))).nput hg hown
    obtain ⟨es, ec, hme⟩ := mapBlk H1.out.num
    have hbn : bx ≠ nm := (ne_mc hme hz1).symm
    have hz2 : w2.heap[bx]? = some (.cells #[.int .i32 (k : Nat), .int .i32 (l : Nat)] 75 (0, 0)) := (hg.block bx (lt_of_block (w := W1.drew) hz1) (fun e => hbn (Option.some.inj e))).trans hz1
    have hbj : bx ≠ jx := ne_cc hz2 hjs2.vj (by decide)
    obtain ⟨hjs3, hpf3⟩ := hjs2.setn n1
    have hg3 : w2.grownBy (w2.setCell ⟨jx, 1, none⟩ (.int .i32 (n1 : Nat))) (some jx) := grown_setCell (World.grownBy.refl w2 _)
    have hz3 : (w2.setCell ⟨jx, 1, none⟩ (.int .i32 (n1 : Nat))).heap[bx]? = some (.cells #[.int .i32 (k : Nat), .int .i32 (l : Nat)] 75 (0, 0)) := (hg3.block bx (lt_of_block hz2) (fun e => hbj (Option.some.inj e))).trans hz2
    have HJS3 := hid hjs3
    have HPF3 := hid ((HP1.out.trans (PutFr.below (Below.drew (Below.refl _ _)) H1.out.far.2.2.2.2)).trans (hpf2.trans hpf3))
    have HZ3 := hid hz3
    have d0 : W1.drew.cell? ⟨bx, 0, none⟩ = some (.int .i32 (k : Nat)) := z0
    have d1 : W1.drew.cell? ⟨bx, 1, none⟩ = some (.int .i32 (l : Nat)) := z1
    have d2 : W1.drew.cell? ⟨nx, 0, none⟩ = some (.map (some nm)) := c1
    have d3 : W1.drew.cell? ⟨jx, 1, none⟩ = some (.int .i32 (fr.length : Nat)) := c3
    have e0 : w2.cell? ⟨bx, 0, none⟩ = some (.int .i32 (k : Nat)) := by simp [World.cell?, hz2]
    have e1 : w2.cell? ⟨bx, 1, none⟩ = some (.int .i32 (l : Nat)) := by simp [World.cell?, hz2]
    have e2 := CN.out _ hjs2.vn
    obtain ⟨e4, e3, e5⟩ := CJ.out _ _ hjs2.vj
    have HN2 := hid (HNUM.out.put H1.out.num.isMap hk hl HNO.out)
    clear hown hg hjs2 hpf2 hme hz2 hz1 hz3 hg3 hjs3 hpf3
    go_cut [7] from 17 to 26 (fun s7 wx => s7 = .int .i32 (fr.length : Nat) ∧ wx = w2.setCell ⟨jx, 1, none⟩ (.int .i32 (n1 : Nat)))
    case first =>
      go_region
      all_goals go_wp2_with fail
      all_goals go_meet
      all_goals exact ⟨rfl, rfl⟩
    case rest =>
      obtain ⟨rfl, rfl⟩ := hcut
      clear z0 z1 c1 c2 c3 c4 d0 d1 d2 d3 e0 e1 e2 e3 e4 e5 hlk hrun hbn hbj
      generalize w2.setCell ⟨jx, 1, none⟩ (.int .i32 (n1 : Nat)) = w3 at *
      have y0 : w3.cell? ⟨bx, 0, none⟩ = some (.int .i32 (k : Nat)) := by simp [World.cell?, HZ3.out]
      have y1 : w3.cell? ⟨bx, 1, none⟩ = some (.int .i32 (l : Nat)) := by simp [World.cell?, HZ3.out]
      obtain ⟨ao, cv, hv⟩ := owns_shape HJS3.out.own
      subst hv
      have y2 : w3.cell? ⟨fx, 0, none⟩ = some (.slice ao fr.length cv) := by simp [World.cell?, HJS3.out.vf]
      obtain ⟨i0, hi0, hz0, hz1, hz2⟩ := info_parts info75
      go_wp2_with (at_builtin; refine wpList_append_own_at _ rfl _ _ 66 rfl base 75 i0 (.agg #[.int .i32 0, .int .i32 0]) 2 8 Yba.underlying66 hi0 hz0 hz1 hz2 rfl (by decide) (.slice ao fr.length cv) fr.length (cellsP fr) rfl ?own ⟨w3.heap.size, 0, none⟩ 1 1 [.int .i32 (k : Nat), .int .i32 (l : Nat)] rfl rfl ?d1 ?d2 ?d3 ?d4 ?d5 ?_)
      case own => exact HJS3.out.own.alloc _
      case d1 => exact two_new w3 _ _ 75
      case d2 => intro u hu; simp at hu; rcases hu with rfl | rfl <;> rfl
      case d3 => unfold maxLen; omega
      case d4 => omega
      case d5 => have := HJS3.out.far.2.2.2.2; simp; omega
      intro v' w5 hown5 hgr5 _ _
      have hb3 : Below w3.heap.size w3 (w3.alloc (.cells #[.int .i32 (k : Nat), .int .i32 (l : Nat)] 75)) := below_al (Below.refl _ _) _
      have hrow5 : w5.ownsRow base 75 2 v' (fr ++ [(k, l)]).length (cellsP (fr ++ [(k, l)])) := by
        rw [cellsP_append, List.length_append]
        exact hown5
      obtain ⟨⟨hjs6, hpf6⟩, hfx5⟩ := (HJS3.out.below hb3).app hgr5 hrow5
      obtain ⟨ao', cv', hv'⟩ := owns_shape hrow5
      obtain ⟨L, hL⟩ : ∃ L, L = (fr ++ [(k, l)]).length := ⟨_, rfl⟩
      rw [← hL] at hv'
      subst hv'
      have HL := hid hL
      clear hL
      have HPF6 := hid (HPF3.out.trans ((PutFr.below hb3 HJS3.out.far.2.2.2.2).trans hpf6))
      have q0 : w5.cell? ⟨fx, 0, none⟩ = some (.slice ao fr.length cv) := by simp [World.cell?, hfx5]
      have q1 : ∀ j, w5.frozen? ⟨fx, j, none⟩ = false := fun j => by simp [World.frozen?, hfx5]
      obtain ⟨r0, _, _⟩ := CJ.out _ _ hjs6.vj
      obtain ⟨w7, hrun, hown7, hg7⟩ := hjs6.jmap.update (key := .string x) (val := .int .i32 (fr.length : Nat)) klaw Yba.underlying43 (by unfold maxLen; omega) (keyOf_string_mk Yba.underlying9 hx) (plainElem_int Yba.underlying21 (wf_i32 (by omega)))
      have HJ7 := hid (hjs6.jput hg7 hown7)
      have g : ((fr.length : Int) != 0) = true := by simp only [bne_iff_ne]; omega
      clear hown5 hgr5 hrow5 hjs6 hpf6 hfx5 hown7 hg7 y0 y1 y2 hi0 hz0 hz1 hz2 hb3
      go_wp2_with fail
      go_end0
      refine ⟨rfl, .slice ao' L cv', fr ++ [(k, l)], fr.length, Nn + 1, _, Nj + 1, _, ?_, HN2.out, .inr rfl, by simp, .inr ⟨by omega, rfl⟩, Nat.le_refl _, Nat.le_refl _, HPF6.out.trans HJ7.out.2⟩
      have := HJ7.out.1
      rw [HN1.out] at this
      simpa using this
  · obtain ⟨i, hi, hie⟩ := List.getElem_of_mem (hm1.1 hf)
    have hig : fr[i]? = some (k, l) := by rw [← hie]; simp [hi]
    have hat := hm2 i hig
    rw [hlc] at hat
    simp only [DataW.lit.injEq, Lit.int.injEq, true_and] at hat
    subst hat
    rw [hf] at hlk
    have HIG := hid hig
    clear hlc hm1 hm2 hf hie hig
    cases g : ((i : Int) != 0)
    · have hi0 : i = 0 := by simpa using g
      go_wp2_with fail
      go_end0
      exact ⟨rfl, v, fr, i, Nn, Dn, Nj, Dj, H1.out, HNUM.out, .inl rfl, HIG.out, .inl ⟨hi0, rfl⟩, by omega, by omega, HP1.out⟩
    · have hi0 : i ≠ 0 := by simpa using g
      obtain ⟨w2, hrun, hown, hg⟩ := H1.out.jmap.update (key := .string x) (val := .int .i32 (i : Nat)) klaw Yba.underlying43 (by unfold maxLen; omega) (keyOf_string_mk Yba.underlying9 hx) (plainElem_int Yba.underlying21 (wf_i32 (by omega)))
      have HJ := hid (H1.out.jput hg hown)
      clear hown hg
      go_wp2_with fail
      go_end0
      exact ⟨rfl, v, fr, i, Nn, Dn, Nj + 1, _, HJ.out.1, HNUM.out, .inl rfl, HIG.out, .inr ⟨hi0, rfl⟩, by omega, by omega, HP1.out.trans HJ.out.2⟩
end Go.Proofs.Ybulkatiq
