/-
  zzs2239bwell.
-/
import Derived.Test.YbulkatiqBuild2
namespace Go.Proofs.Ybulkatiq
open Go.ChangeShapes Go.WideShapes Go.ChangeAt Go.RowKit Go.Maps Go.WideMaps

set_option maxRecDepth 100000 in
set_option maxHeartbeats 1600000 in
theorem well15 {w : World} {p : Nat} {R : Rel} (h : RelAt w p R) (h0 : 0 < R.n0) (h1 : 0 < R.n1) :
    Calls Yba.prog 15 #[.pointer (some ⟨p, 0, none⟩)] w fun e w' => e = .returned (.bool true) ∧ Below w.heap.size w w' := by
  have c1 := h.c1
  have c3 := h.c3
  have c4 := h.c4
  have HR := hid h
  have hsm := h.small
  have hlen := h.len
  have t1 : ¬ (R.n0 : Int) < 1 := by omega
  have t2 : ¬ (R.n1 : Int) < 1 := by omega
  clear h
  go_enter Yba.func15, Yba.ntmps15
  go_wp2_with fail
  go_quiet (fail)
  go_wp2_with fail
  go_loopw [43] (fun vi wr => ∃ i : Nat, i ≤ R.n0 ∧ vi = .int .i64 i ∧ Below w.heap.size w wr) (fun vi _ => R.n0 - (intOf vi).toNat)
  case atStart => exact ⟨0, by omega, rfl, below_drewN (Below.refl _ _) _⟩
  case round =>
    obtain ⟨i, hi, rfl, hb⟩ := hrel
    have HB := hid hb
    rcases Nat.lt_or_ge i R.n0 with hlt | hge
    · have t3 : (i : Int) < (R.n0 : Int) := by omega
      obtain ⟨r, hr⟩ : ∃ r, R.rows[i]? = some r := ⟨R.rows[i]'(by omega), by simp [show i < R.rows.length by omega]⟩
      obtain ⟨hro, hr0, v, hr1, hd⟩ := (HR.out.below hb).rows i r hr
      obtain ⟨rc, rl⟩ := r
      simp only at hro hr0 hr1 hd
      obtain ⟨sa, sc, hsv⟩ := hd.shape
      subst hsv
      have hc := hro.cell
      have hll := hro.len
      have HRO := hid hro
      have HDF := hid hd
      have HBA := hid (hb.alloc hb.size (.cells #[.int .u8 (rc : Nat), .slice sa rl.length sc] 57))
      have t4 : ¬ (3 : Int) < (rc : Int) := by omega
      have hsz := hb.size
      clear hro hd hr hb
      generalize wr = wo at *
      go_wp2_with fail
      go_loopw [7, 53] (fun vp vj wy => ∃ (j : Nat) (pv : Int), j ≤ rl.length ∧ vj = .int .i64 j ∧ vp = .int .i32 pv ∧ pv < 16 ∧ -1 ≤ pv ∧ (∀ q : Nat × Nat, rl[j]? = some q → pv < q.1) ∧ Below (wo.heap.size + 1) (wo.alloc (.cells #[.int .u8 (rc : Nat), .slice sa rl.length sc] 57)) wy) (fun _ vj _ => rl.length - (intOf vj).toNat)
      case atStart => exact ⟨0, -1, by omega, rfl, rfl, by omega, by omega, fun q _ => by omega, Below.refl _ _⟩
      case round =>
        obtain ⟨j, pv, hj, rfl, rfl, hpv, hpv2, hlo, hb2⟩ := hrel
        have HLO := hid hlo
        have HB2 := hid hb2
        have HB3 := hid (show Below w.heap.size w wr from HBA.out.trans (below_le hb2 (by omega)))
        have HB4 := hid (show Below wo.heap.size wo wr from ((Below.refl _ _).alloc (Nat.le_refl _) _).trans (below_le hb2 (by omega)))
        have k0 : wr.cell? ⟨wo.heap.size, 0, none⟩ = some (.int .u8 (rc : Nat)) := (hb2.cell (by show wo.heap.size < _; omega)).trans (by go_simp)
        clear hlo hb2
        rcases Nat.lt_or_ge j rl.length with hjl | hjg
        · have t5 : (j : Int) < (rl.length : Int) := by omega
          obtain ⟨q, hq⟩ : ∃ q, rl[j]? = some q := ⟨rl[j], by simp [hjl]⟩
          obtain ⟨hq1, hq2, hq3⟩ := HRO.out.each j q hq
          obtain ⟨a', cap', e', _, hd⟩ := HDF.out.below HB4.out
          simp only [Value.slice.injEq] at e'
          obtain ⟨rfl, _, rfl⟩ := e'
          rcases hd with h0' | ⟨b, off, cur, rfl, _, hd⟩
          · rw [h0'] at hjl; simp at hjl
          obtain ⟨x0, x1⟩ := hd j q hq
          have u1 : decide ((q.1 : Int) ≤ pv) = false := by have := HLO.out q hq; simp; omega
          have u2 : decide ((R.n1 : Int) ≤ (q.1 : Int)) = false := by simp; omega
          have u3 : ((q.2 : Int) == (rc : Int)) = false := by simp; omega
          have u4 : ¬ (3 : Int) < (q.2 : Int) := by omega
          have HNX := hid (show ∀ q2 : Nat × Nat, rl[j + 1]? = some q2 → (q.1 : Int) < q2.1 from fun q2 h2 => by have := HRO.out.asc j (j + 1) q q2 (by omega) hq h2; omega)
          have hs2 : wo.heap.size + 1 ≤ wr.heap.size := by have := HB2.out.size; simpa using this
          have HB5 := hid (HB2.out.alloc hs2 (.cells #[.int .i32 (q.1 : Nat), .int .u8 (q.2 : Nat)] 55))
          have k0a : (wr.alloc (.cells #[.int .i32 (q.1 : Nat), .int .u8 (q.2 : Nat)] 55)).cell? ⟨wo.heap.size, 0, none⟩ = some (.int .u8 (rc : Nat)) := (((Below.refl wr.heap.size wr).alloc (Nat.le_refl _) _).cell (by show wo.heap.size < _; omega)).trans k0
          clear k0
          clear hd hq
          go_wp2_with fail
          go_roundw
          case rel => exact ⟨j + 1, q.1, by omega, rfl, rfl, by omega, by omega, HNX.out, HB5.out⟩
          case measure => simp [intOf]; omega
        · have : j = rl.length := by omega
          subst this
          have t5 : ¬ (rl.length : Int) < (rl.length : Int) := by omega
          clear k0
          go_wp2_with fail
          go_roundw
          case rel => exact ⟨i + 1, by omega, rfl, HB3.out⟩
          case measure => simp [intOf]; omega
    · have : i = R.n0 := by omega
      subst this
      have t3 : ¬ (R.n0 : Int) < (R.n0 : Int) := by omega
      clear hb
      go_wp2_with fail
      go_ret
      exact ⟨rfl, HB.out⟩
end Go.Proofs.Ybulkatiq
