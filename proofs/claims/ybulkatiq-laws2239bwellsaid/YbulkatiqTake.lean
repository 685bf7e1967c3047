/-
  join: 'take'.
-/
import Derived.Test.YbulkatiqJoin3
set_option linter.unusedVariables false
set_option linter.unusedSimpArgs false
namespace Go.Proofs.Ybulkatiq
open Go.ChangeShapes Go.WideShapes Go.ChangeAt Go.RowKit Go.Maps Go.WideMaps

/-- The candidates are the classes that bear the row's mark. -/
structure CandOk (n made : Nat) (marks cand : List Nat) : Prop where
  len : marks.length = n
  nodup : cand.Nodup
  iff : ∀ l, l ∈ cand ↔ l < n ∧ marks.getD l 0 = made
  le : ∀ l, marks.getD l 0 ≤ made

theorem CandOk.add {n made : Nat} {marks cand : List Nat} (h : CandOk n made marks cand) {l : Nat} (hl : l < n) (hno : marks.getD l 0 ≠ made) : CandOk n made (marks.set l made) (cand ++ [l]) := by
  have hlen := h.len
  have hni : l ∉ cand := fun hm => hno ((h.iff l).1 hm).2
  refine ⟨by simpa using hlen, ?_, fun x => ?_, fun x => ?_⟩
  · rw [List.nodup_append]
    refine ⟨h.nodup, by simp, fun a ha b hb => ?_⟩
    simp only [List.mem_singleton] at hb
    subst hb
    exact fun e => hni (e ▸ ha)
  · rw [List.mem_append, List.mem_singleton]
    by_cases e : x = l
    · subst e
      rw [getD_set_self (by omega)]
      exact ⟨fun _ => ⟨hl, rfl⟩, fun _ => .inr rfl⟩
    · rw [getD_set_ne (fun e' => e e'.symm), h.iff x]
      exact ⟨fun h => h.resolve_right e, .inl⟩
  · by_cases e : x = l
    · subst e
      rw [getD_set_self (by omega)]
      exact Nat.le_refl _
    · rw [getD_set_ne (fun e' => e e'.symm)]
      exact h.le x

/-- What 'take' reads and writes. -/
structure JC (W : World) (base bx jb mb cx : Nat) (jc : Array Value) (n mc made : Nat) (marks cand : List Nat) (cv : Value) : Prop where
  bxk : W.heap[bx]? = some (.cells #[.pointer (some ⟨jb, 0, none⟩)] 82 (0, 0))
  jbk : W.heap[jb]? = some (.cells jc 72 (0, 0))
  j6 : jc[6]? = some (.slice (some ⟨mb, 0, none⟩) n mc)
  j7 : jc[7]? = some (.int .i32 (made : Nat))
  mrk : RowI W mb marks
  cxk : W.heap[cx]? = some (.cells #[cv] 70 (0, 0))
  own : W.ownsRow base 21 1 cv cand.length (ints cand)
  ok : CandOk n made marks cand
  far : base ≤ cx ∧ mb < base ∧ jb < base ∧ base ≤ W.heap.size

/-- What 'take' leaves as it was. -/
structure TFr (mb cx : Nat) (cv cv' : Value) (W W' : World) : Prop where
  os : W'.os = W.os
  tape : W'.tape = W.tape
  output : W'.output = W.output
  size : W.heap.size ≤ W'.heap.size
  block : ∀ b, b < W.heap.size → b ≠ mb → b ≠ cx → cv.ownBlock ≠ some b → W'.heap[b]? = W.heap[b]?
  own : cv'.ownBlock = cv.ownBlock ∨ ∃ g, cv'.ownBlock = some g ∧ W.heap.size ≤ g

def TakePost (W : World) (base bx jb mb cx : Nat) (jc : Array Value) (n mc made : Nat) (cand : List Nat) (cv : Value) (l : Nat) (e : Ending) (w' : World) : Prop :=
  e = .returned (.tuple #[]) ∧ ∃ marks' cand' cv', JC w' base bx jb mb cx jc n mc made marks' cand' cv' ∧ l ∈ cand' ∧ (∀ x, x ∈ cand → x ∈ cand') ∧ TFr mb cx cv cv' W w'

theorem ownI_ne {W : World} {base n b : Nat} {v : Value} {xs : List Value} {cs : Array Value} {t : TypeId} {f : Nat × Nat} (h : W.ownsRow base 21 1 v n xs) (hb : W.heap[b]? = some (.cells cs t f)) (ht : t ≠ 21) : v.ownBlock ≠ some b := fun e => by
  rcases h.2 with ⟨rfl, _⟩ | ⟨g, cap, cur, rfl, _, hgg, _⟩
  · cases e
  · simp only [Value.ownBlock, Option.some.injEq] at e
    rw [e, hb] at hgg
    cases hgg
    exact ht rfl

theorem JC.below {W W' : World} {base bx jb mb cx : Nat} {jc : Array Value} {n mc made : Nat} {marks cand : List Nat} {cv : Value} (h : JC W base bx jb mb cx jc n mc made marks cand cv) (hb : Below W.heap.size W W') : JC W' base bx jb mb cx jc n mc made marks cand cv :=
  ⟨(hb.block _ (lt_of_block h.bxk)).trans h.bxk, (hb.block _ (lt_of_block h.jbk)).trans h.jbk, h.j6, h.j7, h.mrk.below hb, (hb.block _ (lt_of_block h.cxk)).trans h.cxk, h.own.kept (Below.grownBy hb none) (by cases hv : cv.ownBlock <;> simp), h.ok, h.far.1, h.far.2.1, h.far.2.2.1, Nat.le_trans h.far.2.2.2 hb.size⟩

theorem TFr.below {mb cx : Nat} {cv : Value} {W W' : World} (hb : Below W.heap.size W W') : TFr mb cx cv cv W W' := ⟨hb.os, hb.tape, hb.output, hb.size, fun b hl _ _ _ => hb.block b hl, .inl rfl⟩

theorem TFr.trans {mb cx : Nat} {c1 c2 c3 : Value} {A B C : World} (h : TFr mb cx c1 c2 A B) (k : TFr mb cx c2 c3 B C) : TFr mb cx c1 c3 A C := by
  refine ⟨k.os.trans h.os, k.tape.trans h.tape, k.output.trans h.output, Nat.le_trans h.size k.size, fun b hb h1 h2 h3 => ?_, ?_⟩
  · have hs := h.size
    refine (k.block b (by omega) h1 h2 ?_).trans (h.block b hb h1 h2 h3)
    rcases h.own with e | ⟨g, e, hg⟩
    · rw [e]; exact h3
    · rw [e]; intro e2; simp only [Option.some.injEq] at e2; omega
  · rcases k.own with e | ⟨g, e, hg⟩
    · rw [e]
      rcases h.own with e' | ⟨g, e', hg⟩
      · exact .inl e'
      · exact .inr ⟨g, e', hg⟩
    · exact .inr ⟨g, e, Nat.le_trans h.size hg⟩

/-- The class l is marked and laid to the candidates. -/
theorem JC.add {W W' : World} {base bx jb mb cx : Nat} {jc : Array Value} {n mc made : Nat} {marks cand : List Nat} {cv cv' : Value} (h : JC W base bx jb mb cx jc n mc made marks cand cv) {l : Nat} (hl : l < n) (hno : marks.getD l 0 ≠ made) (hg : W.grownBy W' cv.ownBlock) (ho : W'.ownsRow base 21 1 cv' (cand ++ [l]).length (ints (cand ++ [l]))) (hown : cv'.ownBlock = cv.ownBlock ∨ ∃ g, cv'.ownBlock = some g ∧ W.heap.size ≤ g) :
    (JC ((W'.setCell ⟨mb, l, none⟩ (.int .i32 (made : Nat))).setCell ⟨cx, 0, none⟩ cv') base bx jb mb cx jc n mc made (marks.set l made) (cand ++ [l]) cv' ∧ TFr mb cx cv cv' W ((W'.setCell ⟨mb, l, none⟩ (.int .i32 (made : Nat))).setCell ⟨cx, 0, none⟩ cv')) ∧ RowI W' mb marks ∧ W'.heap[cx]? = some (.cells #[cv] 70 (0, 0)) ∧ cx ≠ mb := by
  obtain ⟨f1, f2, f3, f4⟩ := h.far
  have hlen := h.ok.len
  have hk : ∀ b o, W.heap[b]? = some o → cv.ownBlock ≠ some b → W'.heap[b]? = some o := fun b o hb hne => (hg.block b (lt_of_block hb) (fun e => hne e.symm)).trans hb
  have hmb : cv.ownBlock ≠ some mb := fun e => by have := (h.own.lt _ e).1; omega
  have hjbn : cv.ownBlock ≠ some jb := fun e => by have := (h.own.lt _ e).1; omega
  have a1 := hk _ _ h.bxk (ownI_ne h.own h.bxk (by decide))
  have a2 := hk _ _ h.jbk hjbn
  have a3 := hk _ _ h.cxk (ownI_ne h.own h.cxk (by decide))
  obtain ⟨cur, hm1, hm2⟩ := h.mrk.blk
  have hm3 := hk _ _ hm1 hmb
  have a4 : RowI W' mb marks := ⟨⟨cur, hm3, hm2⟩, fun i x hx => by
    have := h.mrk.each i x hx
    unfold World.cell? at this ⊢
    rw [hm3]
    rw [hm1] at this
    exact this⟩
  have hcm : cx ≠ mb := by omega
  have g1 : W'.grownBy (W'.setCell ⟨mb, l, none⟩ (.int .i32 (made : Nat))) (some mb) := grown_setCell (World.grownBy.refl W' _)
  have b1 := (g1.block _ (lt_of_block a1) (fun e => ne_cc a1 hm3 (by decide) (Option.some.inj e))).trans a1
  have b2 := (g1.block _ (lt_of_block a2) (fun e => ne_cc a2 hm3 (by decide) (Option.some.inj e))).trans a2
  have b3 := (g1.block _ (lt_of_block a3) (fun e => hcm (Option.some.inj e))).trans a3
  have b4 := a4.set (i := l) made (by omega)
  have hmb' : cv'.ownBlock ≠ some mb := fun e => by have := (ho.lt _ e).1; omega
  have b5 := ho.kept g1 (.inr hmb')
  have hsz1 := g1.size
  have hsz0 := hg.size
  have hblk1 := g1.block
  have ht1 := g1.os
  have ht2 := g1.tape
  have ht3 := g1.output
  generalize hW1 : W'.setCell ⟨mb, l, none⟩ (.int .i32 (made : Nat)) = W1 at *
  have g2 : W1.grownBy (W1.setCell ⟨cx, 0, none⟩ cv') (some cx) := grown_setCell (World.grownBy.refl W1 _)
  have c3 := heap_setCell_same W1 cx 0 _ 70 cv' b3
  refine ⟨⟨⟨(g2.block _ (lt_of_block b1) (fun e => ne_cc b1 b3 (by decide) (Option.some.inj e))).trans b1, (g2.block _ (lt_of_block b2) (fun e => ne_cc b2 b3 (by decide) (Option.some.inj e))).trans b2, h.j6, h.j7, b4.other g2 (fun e => hcm e.symm), c3, b5.kept g2 (.inr (ownI_ne b5 b3 (by decide))), h.ok.add hl hno, f1, f2, f3, by have := g2.size; omega⟩, ?_⟩, a4, a3, hcm⟩
  refine ⟨g2.os.trans (ht1.trans hg.os), g2.tape.trans (ht2.trans hg.tape), g2.output.trans (ht3.trans hg.output), by have := g2.size; omega, fun b hb q1 q2 q3 => ?_, hown⟩
  exact (g2.block b (by omega) (fun e => q2 (Option.some.inj e))).trans ((hblk1 b (by omega) (fun e => q1 (Option.some.inj e))).trans (hg.block b hb (fun e => q3 e.symm)))
theorem JC.cells {W : World} {base bx jb mb cx : Nat} {jc : Array Value} {n mc made : Nat} {marks cand : List Nat} {cv : Value} (h1 : W.heap[bx]? = some (.cells #[.pointer (some ⟨jb, 0, none⟩)] 82 (0, 0))) (h2 : W.heap[jb]? = some (.cells jc 72 (0, 0))) (j6 : jc[6]? = some (.slice (some ⟨mb, 0, none⟩) n mc)) (j7 : jc[7]? = some (.int .i32 (made : Nat))) (h3 : W.heap[cx]? = some (.cells #[cv] 70 (0, 0))) :
    W.cell? ⟨bx, 0, none⟩ = some (.pointer (some ⟨jb, 0, none⟩)) ∧ W.cell? ⟨jb, 6, none⟩ = some (.slice (some ⟨mb, 0, none⟩) n mc) ∧ W.cell? ⟨jb, 7, none⟩ = some (.int .i32 (made : Nat)) ∧ W.cell? ⟨cx, 0, none⟩ = some cv ∧ W.frozen? ⟨cx, 0, none⟩ = false :=
  ⟨by simp [World.cell?, h1], by simp [World.cell?, h2, j6], by simp [World.cell?, h2, j7], by simp [World.cell?, h3], by simp [World.frozen?, h3]⟩

theorem wp_append {P : Program} {o : Oper} {a : Act} {w : World} {K : Act → World → Prop} {Q : Exit → Act → World → Prop} (s x : Operand) (t : TypeId) (ho : o.op = .call { callee := .builtin .append, args := #[s, x], argTypes := #[t, t] }) (v vx v' : Value) (w' : World) (hs : a.eval s = v) (hx : a.eval x = vx) (hr : (Builtin.append_ #[t, t] o.type #[v, vx]).run P w = .ok v' w') (hK : K (a.put o.dst v') w') : Oper.wp P o a w K Q := by
  unfold Oper.wp execOp
  simp only [ho, resolve, invoke, builtin, Sem.run_bind, Sem.run_pure, Result.andThen_ok, List.map_toArray, List.map_cons, List.map_nil, hs, hx, hr]
  exact hK

theorem one_new (w : World) (a : Value) (t : TypeId) : ∀ (j : Nat) (u : Value), [a][j]? = some u → (w.alloc (.cells #[a] t)).cell? ((⟨w.heap.size, 0, none⟩ : Addr).add j) = some u := by
  intro j u h
  rw [add_plain]
  match j, h with
  | 0, h => simp at h; subst h; unfold World.cell?; rw [heap_new]; rfl
  | n + 1, h => simp at h

set_option maxRecDepth 100000 in
set_option maxHeartbeats 6400000 in
theorem take30 {W : World} {base bx jb mb cx : Nat} {jc : Array Value} {n mc made : Nat} {marks cand : List Nat} {cv : Value} (h : JC W base bx jb mb cx jc n mc made marks cand cv) {l : Nat} (hl : l < n) (hn : n ≤ 1024) (hc : cand.length ≤ 1024) :
    Calls Yba.prog 30 #[.int .i32 (l : Nat), .pointer (some ⟨bx, 0, none⟩), .pointer (some ⟨cx, 0, none⟩)] W (TakePost W base bx jb mb cx jc n mc made cand cv l) := by
  have hlen := h.ok.len
  obtain ⟨ao, cc, hv⟩ := owns_shape h.own
  subst hv
  obtain ⟨e1, e2, e3, e4, e5⟩ := JC.cells (base := base) (marks := marks) (cand := cand) h.bxk h.jbk h.j6 h.j7 h.cxk
  have e6 := h.mrk.at (i := l) (by omega)
  have t1 : (l : Int) < (n : Int) := by omega
  have H := hid h
  clear h
  go_enter Yba.func30, Yba.ntmps30
  by_cases hm : marks.getD l 0 = made
  · have HM := hid hm
    have g : (((marks.getD l 0 : Nat) : Int) != (made : Int)) = false := by rw [hm]; simp
    clear hm
    generalize marks.getD l 0 = mv at e6 g
    go_wp2_with fail
    go_quiet (fail)
    go_wp2_with fail
    go_end0
    exact ⟨rfl, marks, cand, _, H.out.below (below_drewN (Below.refl _ _) nq), (H.out.ok.iff l).2 ⟨hl, HM.out⟩, fun x h => h, TFr.below (below_drewN (Below.refl _ _) nq)⟩
  · have HM := hid hm
    have g : (((marks.getD l 0 : Nat) : Int) != (made : Int)) = true := by simp only [bne_iff_ne]; omega
    clear hm
    obtain ⟨mv, hmv⟩ : ∃ mv, mv = marks.getD l 0 := ⟨_, rfl⟩
    rw [← hmv] at e6 g
    have HMV := hid hmv
    clear hmv
    go_wp2_with fail
    go_quiet (fail)
    have hbq : Below W.heap.size W (W.drewN nq) := below_drewN (Below.refl _ _) nq
    have HTQ := hid (TFr.below (mb := mb) (cx := cx) (cv := .slice ao cand.length cc) hbq)
    have HQ := hid (H.out.below hbq)
    clear hbq e1 e2 e3 e4 e5 e6
    generalize W.drewN nq = Wq at HTQ HQ ⊢
    have hb1 : Below Wq.heap.size Wq (Wq.alloc (.cells #[.int .i32 (l : Nat)] 21)).drew := Below.drew (below_al (Below.refl _ _) _)
    have HJ1 := hid (HQ.out.below hb1)
    obtain ⟨i0, hi0, hz0, hz1, hz2⟩ := info_parts info21
    obtain ⟨v', w5, hrun, hown5, hg5, _, hob⟩ := run_append_own_at (P := Yba.prog) (Wq.alloc (.cells #[.int .i32 (l : Nat)] 21)).drew base 70 70 21 i0 (.int .i32 0) 1 4 Yba.underlying70 hi0 hz0 hz1 hz2 rfl (by decide) (.slice ao cand.length cc) cand.length (ints cand) HJ1.out.own ⟨Wq.heap.size, 0, none⟩ 1 1 [.int .i32 (l : Nat)] rfl (one_new Wq _ 21) (by intro u hu; simp at hu; subst hu; rfl) (by unfold maxLen; omega) (by omega) HJ1.out.far.2.2.2
    have hrow5 : w5.ownsRow base 21 1 v' (cand ++ [l]).length (ints (cand ++ [l])) := by
      rw [List.length_append]
      simpa [ints] using hown5
    obtain ⟨⟨hjc6, htf6⟩, hmk5, hcx5, hcm⟩ := HJ1.out.add hl HM.out hg5 hrow5 (hob.imp id (fun e => ⟨_, e, Nat.le_refl _⟩))
    obtain ⟨ao', cc', hv'⟩ := owns_shape hrow5
    obtain ⟨L, hL⟩ : ∃ L, L = (cand ++ [l]).length := ⟨_, rfl⟩
    rw [← hL] at hv'
    subst hv'
    have hk5 : ∀ b o, (Wq.alloc (.cells #[.int .i32 (l : Nat)] 21)).drew.heap[b]? = some o → (Value.slice ao cand.length cc).ownBlock ≠ some b → w5.heap[b]? = some o := fun b o hb hne => (hg5.block b (lt_of_block hb) (fun e => hne e.symm)).trans hb
    have x1 := hk5 _ _ HJ1.out.bxk (ownI_ne HJ1.out.own HJ1.out.bxk (by decide))
    have x2 := hk5 _ _ HJ1.out.jbk (fun e => by have := (HJ1.out.own.lt _ e).1; have := HJ1.out.far; omega)
    obtain ⟨p1, p2, p3, p4, p5⟩ := JC.cells (base := base) (marks := marks) (cand := cand) HQ.out.bxk HQ.out.jbk HQ.out.j6 HQ.out.j7 HQ.out.cxk
    obtain ⟨r1, r2, r3, r4, r5⟩ := JC.cells (base := base) (marks := marks) (cand := cand) HJ1.out.bxk HJ1.out.jbk HJ1.out.j6 HJ1.out.j7 HJ1.out.cxk
    obtain ⟨s1, s2, s3, s4, s5⟩ := JC.cells (base := base) (marks := marks) (cand := cand) x1 x2 HQ.out.j6 HQ.out.j7 hcx5
    have s6 := hmk5.at (i := l) (by omega)
    rw [← HMV.out] at s6
    have s7 := fun j => hmk5.fz j
    have p1' : Wq.drew.cell? ⟨bx, 0, none⟩ = some (.pointer (some ⟨jb, 0, none⟩)) := p1
    have p2' : Wq.drew.cell? ⟨jb, 6, none⟩ = some (.slice (some ⟨mb, 0, none⟩) n mc) := p2
    have p3' : Wq.drew.cell? ⟨jb, 7, none⟩ = some (.int .i32 (made : Nat)) := p3
    have p4' : Wq.drew.cell? ⟨cx, 0, none⟩ = some (.slice ao cand.length cc) := p4
    have HJ6 := hid hjc6
    have HT6 := hid (HTQ.out.trans ((TFr.below hb1).trans htf6))
    have HL := hid hL
    have HMEM := hid (show ∀ x, x ∈ cand → x ∈ cand ++ [l] from fun x hx => List.mem_append.2 (.inl hx))
    clear hown5 hg5 hrow5 hjc6 htf6 hmk5 hcx5 hob hk5 x1 x2 hb1 hi0 hz0 hz1 hz2 hL
    have hbm : bx ≠ mb := by
      obtain ⟨cur, hm1, _⟩ := HQ.out.mrk.blk
      exact ne_cc HQ.out.bxk hm1 (by decide)
    have hjm : jb ≠ mb := by
      obtain ⟨cur, hm1, _⟩ := HQ.out.mrk.blk
      exact ne_cc HQ.out.jbk hm1 (by decide)
    have hbc : bx ≠ cx := ne_cc HQ.out.bxk HQ.out.cxk (by decide)
    have hjc : jb ≠ cx := ne_cc HQ.out.jbk HQ.out.cxk (by decide)
    have hfz : ∀ W' : World, W'.heap[cx]? = some (.cells #[.slice ao cand.length cc] 70 (0, 0)) → W'.cell? ⟨cx, 0, none⟩ = some (.slice ao cand.length cc) := fun W' h => by simp [World.cell?, h]
    clear hfz
    go_wp2_with fail
    refine wp_region_noPanic ?_
    refine wp_region_held_drew (S := fun W => W.cell? ⟨bx, 0, none⟩ = some (.pointer (some ⟨jb, 0, none⟩)) ∧ W.cell? ⟨jb, 6, none⟩ = some (.slice (some ⟨mb, 0, none⟩) n mc) ∧ W.cell? ⟨jb, 7, none⟩ = some (.int .i32 (made : Nat))) (by kernel_rfl) ⟨p1, p2, p3⟩ (fun hHeld => ?_)
    refine wpAnyH_take (i := 0) (v := .pointer (some ⟨jb, 0, none⟩)) rfl (by kernel_rfl) (by kernel_rfl) (by kernel_rfl) (fun _ _ _ h => h) (Or.inl ⟨by rfl, fun W hSw => by obtain ⟨z1, z2, z3⟩ := hSw; go_simp⟩) hHeld ?_
    simp only [Act.put, List.setIfInBounds_toArray, List.set_cons_zero, List.set_cons_succ]
    refine wpAnyH_take (i := 1) (v := .pointer (some ⟨jb, 0, none⟩)) rfl (by kernel_rfl) (by kernel_rfl) (by kernel_rfl) (fun _ _ _ h => h) (Or.inl ⟨by rfl, fun W hSw => by obtain ⟨z1, z2, z3⟩ := hSw; go_simp⟩) hHeld ?_
    simp only [Act.put, List.setIfInBounds_toArray, List.set_cons_zero, List.set_cons_succ]
    refine wpAnyH_take (i := 2) (v := .pointer (some ⟨jb, 6, none⟩)) rfl (by kernel_rfl) (by kernel_rfl) (by kernel_rfl) (fun _ _ _ h => h) (Or.inl ⟨by rfl, fun W hSw => by obtain ⟨z1, z2, z3⟩ := hSw; go_simp⟩) hHeld ?_
    simp only [Act.put, List.setIfInBounds_toArray, List.set_cons_zero, List.set_cons_succ]
    refine wpAnyH_take (i := 3) (v := .slice (some ⟨mb, 0, none⟩) n mc) rfl (by kernel_rfl) (by kernel_rfl) (by kernel_rfl) (fun _ _ _ h => h) (Or.inl ⟨by rfl, fun W hSw => by obtain ⟨z1, z2, z3⟩ := hSw; go_simp⟩) hHeld ?_
    simp only [Act.put, List.setIfInBounds_toArray, List.set_cons_zero, List.set_cons_succ]
    refine wpAnyH_take (i := 4) (v := .int .i32 (l : Nat)) rfl (by kernel_rfl) (by kernel_rfl) (by kernel_rfl) (fun _ _ _ h => h) (Or.inl ⟨by rfl, fun W hSw => by obtain ⟨z1, z2, z3⟩ := hSw; go_simp⟩) hHeld ?_
    simp only [Act.put, List.setIfInBounds_toArray, List.set_cons_zero, List.set_cons_succ]
    refine wpAnyH_take (i := 5) (v := .pointer (some ⟨jb, 0, none⟩)) rfl (by kernel_rfl) (by kernel_rfl) (by kernel_rfl) (fun _ _ _ h => h) (Or.inl ⟨by rfl, fun W hSw => by obtain ⟨z1, z2, z3⟩ := hSw; go_simp⟩) hHeld ?_
    simp only [Act.put, List.setIfInBounds_toArray, List.set_cons_zero, List.set_cons_succ]
    refine wpAnyH_take (i := 6) (v := .pointer (some ⟨jb, 0, none⟩)) rfl (by kernel_rfl) (by kernel_rfl) (by kernel_rfl) (fun _ _ _ h => h) (Or.inl ⟨by rfl, fun W hSw => by obtain ⟨z1, z2, z3⟩ := hSw; go_simp⟩) hHeld ?_
    simp only [Act.put, List.setIfInBounds_toArray, List.set_cons_zero, List.set_cons_succ]
    refine wpAnyH_take (i := 7) (v := .pointer (some ⟨jb, 7, none⟩)) rfl (by kernel_rfl) (by kernel_rfl) (by kernel_rfl) (fun _ _ _ h => h) (Or.inl ⟨by rfl, fun W hSw => by obtain ⟨z1, z2, z3⟩ := hSw; go_simp⟩) hHeld ?_
    simp only [Act.put, List.setIfInBounds_toArray, List.set_cons_zero, List.set_cons_succ]
    refine wpAnyH_take (i := 8) (v := .int .i32 (made : Nat)) rfl (by kernel_rfl) (by kernel_rfl) (by kernel_rfl) (fun _ _ _ h => h) (Or.inl ⟨by rfl, fun W hSw => by obtain ⟨z1, z2, z3⟩ := hSw; go_simp⟩) hHeld ?_
    simp only [Act.put, List.setIfInBounds_toArray, List.set_cons_zero, List.set_cons_succ]
    refine wpAnyH_take (i := 10) (v := .int .i32 (l : Nat)) rfl (by kernel_rfl) (by kernel_rfl) (by kernel_rfl) (fun _ _ _ h => h) (Or.inl ⟨by rfl, fun W hSw => by obtain ⟨z1, z2, z3⟩ := hSw; go_simp⟩) hHeld ?_
    simp only [Act.put, List.setIfInBounds_toArray, List.set_cons_zero, List.set_cons_succ]
    refine wpAnyH_ready (rs := [9, 11]) (by kernel_rfl) (by simp) ?_
    refine AllReadyH.cons rfl (fun K hK => ?_) (AllReadyH.cons rfl (fun K hK => ?_) AllReadyH.nil)
    · go_simp
      refine hK.out _ _ ?_ (fun hHeld2 => ?_)
      · exact ⟨p1, p2, p3⟩
      clear hK K hHeld
      have hHeld := hHeld2
      clear hHeld2
      try simp only [Act.put, List.setIfInBounds_toArray, List.set_cons_zero, List.set_cons_succ]
      refine wpAnyH_ready (rs := [11]) (by kernel_rfl) (by simp) ?_
      refine AllReadyH.cons rfl (fun K hK => ?_) AllReadyH.nil
      go_simp
      refine hK.out _ _ ?_ (fun hHeld2 => ?_)
      · exact ⟨r1, r2, r3⟩
      clear hK K hHeld
      have hHeld := hHeld2
      clear hHeld2
      try simp only [Act.put, List.setIfInBounds_toArray, List.set_cons_zero, List.set_cons_succ]
      refine wpAnyH_ready (rs := [12]) (by kernel_rfl) (by simp) ?_
      refine AllReadyH.cons rfl (fun K hK => ?_) AllReadyH.nil
      rw [if_pos (by rfl)]
      refine wp_append _ _ 70 rfl _ _ _ _ rfl rfl hrun ?_
      refine hK.out _ _ ?_ (fun hHeld2 => ?_)
      · exact ⟨s1, s2, s3⟩
      clear hK K hHeld
      have hHeld := hHeld2
      clear hHeld2
      try simp only [Act.put, List.setIfInBounds_toArray, List.set_cons_zero, List.set_cons_succ]
      refine wpAnyH_take (i := 13) (v := .pointer (some ⟨mb, l, none⟩)) rfl (by kernel_rfl) (by kernel_rfl) (by kernel_rfl) (fun _ _ _ h => h) (Or.inl ⟨by rfl, fun W hSw => by obtain ⟨z1, z2, z3⟩ := hSw; go_simp⟩) hHeld ?_
      simp only [Act.put, List.setIfInBounds_toArray, List.set_cons_zero, List.set_cons_succ]
      refine wpAnyH_ready (rs := [14]) (by kernel_rfl) (by simp) ?_
      refine AllReadyH.cons rfl (fun K hK => ?_) AllReadyH.nil
      go_simp
      refine hK.out _ _ ?_ (fun hHeld2 => ?_)
      · exact ⟨cell_kept (grown_setCell (World.grownBy.refl _ _)) s1 hbm, cell_kept (grown_setCell (World.grownBy.refl _ _)) s2 hjm, cell_kept (grown_setCell (World.grownBy.refl _ _)) s3 hjm⟩
      clear hK K hHeld
      have hHeld := hHeld2
      clear hHeld2
      try simp only [Act.put, List.setIfInBounds_toArray, List.set_cons_zero, List.set_cons_succ]
      refine wpAnyH_ready (rs := [15]) (by kernel_rfl) (by simp) ?_
      refine AllReadyH.cons rfl (fun K hK => ?_) AllReadyH.nil
      go_simp
      refine hK.out _ _ ?_ (fun hHeld2 => ?_)
      · exact ⟨cell_kept (grown_setCell (World.grownBy.refl _ _)) hHeld.1 hbc, cell_kept (grown_setCell (World.grownBy.refl _ _)) hHeld.2.1 hjc, cell_kept (grown_setCell (World.grownBy.refl _ _)) hHeld.2.2 hjc⟩
      clear hK K hHeld
      have hHeld := hHeld2
      clear hHeld2
      try simp only [Act.put, List.setIfInBounds_toArray, List.set_cons_zero, List.set_cons_succ]
      refine wpAnyH_done (by kernel_rfl) ?_ _
      refine NoPanic.normal ?_
      go_end0
      exact ⟨rfl, _, _, _, HJ6.out, by simp, HMEM.out, HT6.out⟩
    · go_simp
      refine hK.out _ _ ?_ (fun hHeld2 => ?_)
      · exact ⟨r1, r2, r3⟩
      clear hK K hHeld
      have hHeld := hHeld2
      clear hHeld2
      try simp only [Act.put, List.setIfInBounds_toArray, List.set_cons_zero, List.set_cons_succ]
      refine wpAnyH_ready (rs := [9]) (by kernel_rfl) (by simp) ?_
      refine AllReadyH.cons rfl (fun K hK => ?_) AllReadyH.nil
      go_simp
      refine hK.out _ _ ?_ (fun hHeld2 => ?_)
      · exact ⟨r1, r2, r3⟩
      clear hK K hHeld
      have hHeld := hHeld2
      clear hHeld2
      try simp only [Act.put, List.setIfInBounds_toArray, List.set_cons_zero, List.set_cons_succ]
      refine wpAnyH_ready (rs := [12]) (by kernel_rfl) (by simp) ?_
      refine AllReadyH.cons rfl (fun K hK => ?_) AllReadyH.nil
      rw [if_pos (by rfl)]
      refine wp_append _ _ 70 rfl _ _ _ _ rfl rfl hrun ?_
      refine hK.out _ _ ?_ (fun hHeld2 => ?_)
      · exact ⟨s1, s2, s3⟩
      clear hK K hHeld
      have hHeld := hHeld2
      clear hHeld2
      try simp only [Act.put, List.setIfInBounds_toArray, List.set_cons_zero, List.set_cons_succ]
      refine wpAnyH_take (i := 13) (v := .pointer (some ⟨mb, l, none⟩)) rfl (by kernel_rfl) (by kernel_rfl) (by kernel_rfl) (fun _ _ _ h => h) (Or.inl ⟨by rfl, fun W hSw => by obtain ⟨z1, z2, z3⟩ := hSw; go_simp⟩) hHeld ?_
      simp only [Act.put, List.setIfInBounds_toArray, List.set_cons_zero, List.set_cons_succ]
      refine wpAnyH_ready (rs := [14]) (by kernel_rfl) (by simp) ?_
      refine AllReadyH.cons rfl (fun K hK => ?_) AllReadyH.nil
      go_simp
      refine hK.out _ _ ?_ (fun hHeld2 => ?_)
      · exact ⟨cell_kept (grown_setCell (World.grownBy.refl _ _)) s1 hbm, cell_kept (grown_setCell (World.grownBy.refl _ _)) s2 hjm, cell_kept (grown_setCell (World.grownBy.refl _ _)) s3 hjm⟩
      clear hK K hHeld
      have hHeld := hHeld2
      clear hHeld2
      try simp only [Act.put, List.setIfInBounds_toArray, List.set_cons_zero, List.set_cons_succ]
      refine wpAnyH_ready (rs := [15]) (by kernel_rfl) (by simp) ?_
      refine AllReadyH.cons rfl (fun K hK => ?_) AllReadyH.nil
      go_simp
      refine hK.out _ _ ?_ (fun hHeld2 => ?_)
      · exact ⟨cell_kept (grown_setCell (World.grownBy.refl _ _)) hHeld.1 hbc, cell_kept (grown_setCell (World.grownBy.refl _ _)) hHeld.2.1 hjc, cell_kept (grown_setCell (World.grownBy.refl _ _)) hHeld.2.2 hjc⟩
      clear hK K hHeld
      have hHeld := hHeld2
      clear hHeld2
      try simp only [Act.put, List.setIfInBounds_toArray, List.set_cons_zero, List.set_cons_succ]
      refine wpAnyH_done (by kernel_rfl) ?_ _
      refine NoPanic.normal ?_
      go_end0
      exact ⟨rfl, _, _, _, HJ6.out, by simp, HMEM.out, HT6.out⟩
end Go.Proofs.Ybulkatiq
