/- The contracts of the reference: Dec.Trim (the exponent that is left). -/
import Derived.Test.YthemaneoighaoaaGreatDoorTrim
import Derived.Test.YthemaneoighaoaaGreatDoorFsE
import Derived.Test.YthemaneoighaoaaGreatDoorMin
namespace Go.Proofs.YthemaneoighaoaaGreatDoor
open Go.RowKit

/-- the number in a cell -/
def expOf (w : World) (g : Nat) : Nat := match w.cell? ⟨g, 2, none⟩ with | some (.int _ n) => n.natAbs | _ => 0

theorem expOf_row {w : World} {g s : Nat} {x y : Value} {T : TypeId} (h : w.heap[g]? = some (.cells #[x, y, .int .i64 (-(s : Int))] T (0, 0))) : expOf w g = s := by
  have := row_cell h 2
  simp at this
  simp [expOf, this]

theorem expOf_row2 {w : World} {g : Nat} {z : Int} {x y : Value} {T : TypeId} (h : w.heap[g]? = some (.cells #[x, y, .int .i64 z] T (0, 0))) : expOf w g = z.natAbs := by
  have := row_cell h 2
  simp at this
  simp [expOf, this]

set_option maxRecDepth 20000 in
set_option maxHeartbeats 4000000 in
theorem Trim_any (neg : Bool) (v : Value) (l : List Nat) (s : Nat) (w : World) (h : SNat w v l) (hn : Norm l) (hl : l.length ≤ 1000) (hs : s ≤ 1000000) :
    Calls Tryz.prog 17 #[.agg #[.bool neg, v, .int .i64 (-(s : Int))], .int .i64 0] w (fun e w' => ∃ (nb : Bool) (ua : Option Addr) (un uc : Nat), e = .returned (.agg #[.bool nb, .slice ua un uc, .int .i64 (-(trimN s (sval l) : Int))]) ∧ Fresh w w') := by
  obtain ⟨a, c, rfl⟩ := h.form
  obtain ⟨g, hg⟩ : ∃ g, g = w.heap.size := ⟨_, rfl⟩
  have bx := boxes2 w #[.bool neg, .slice a l.length c, .int .i64 (-(s : Int))] #[.bool false, .slice none 0 0, .int .i64 0] 31 31 g hg
  have H_bx := Lib.hid bx; clear bx
  have H_h := Lib.hid h; clear h
  have H_hn := Lib.hid hn; clear hn
  go_enter Tryz.func17, Tryz.ntmps17
  go_wp2_with (fail)
  generalize hw1 : (w.alloc _).alloc _ = w1
  rw [← hg]
  obtain ⟨b1, b2, hf⟩ := H_bx.out w1 hw1
  have H_b1 := Lib.hid b1; clear b1
  have H_b2 := Lib.hid b2; clear b2
  have H_hf := Lib.hid hf; clear hf
  have H_hw1 := Lib.hid hw1; clear hw1
  have H_hg := Lib.hid hg; clear hg
  go_loopw [5] (fun _ wr => ∃ (s' : Nat) (nb : Bool) (a : Option Addr) (l' : List Nat) (cc : Nat), s' ≤ 1000000 ∧ Hid (wr.heap[g]? = some (.cells #[.bool nb, .slice a l'.length cc, .int .i64 (-(s' : Int))] 31 (0, 0))) ∧ Hid (wr.heap[g + 1]? = some (.cells #[.bool false, .slice none 0 0, .int .i64 0] 31 (0, 0))) ∧ Hid (SNat wr (.slice a l'.length cc) l') ∧ Hid (Norm l') ∧ Hid (trimN s' (sval l') = trimN s (sval l)) ∧ Hid (l'.length ≤ 1000) ∧ Hid (Fresh w wr)) (fun _ wr => expOf wr g)
  case atStart => exact ⟨s, neg, a, l, c, hs, H_b1, H_b2, Lib.hid (H_h.out.fresh H_hf.out), H_hn, Lib.hid rfl, Lib.hid hl, H_hf⟩
  case round =>
    obtain ⟨s', nb, a, l', cc, hs', hrow, hrow2, hnat, hnorm, hval, hlen, hfr⟩ := hrel
    rcases Nat.eq_zero_or_pos s' with h0 | h0
    · subst h0
      have htrim : trimN s (sval l) = 0 := by rw [← hval.out]; rfl
      have t1 : decide (-((0 : Nat) : Int) < 0) = false := by simp
      have H_htrim := Lib.hid (show ((0 : Nat) : Int) = (trimN s (sval l) : Int) by rw [htrim])
      clear htrim
      have d1 := hrow.out
      have d2 := hrow2.out
      have k0 := row_cell d1 0
      have k1 := row_cell d1 1
      have k2 := row_cell d1 2
      have p0 := row_cell d2 0
      have p1 := row_cell d2 1
      have p2 := row_cell d2 2
      simp at k0 k1 k2 p0 p1 p2
      have q0 : wr.frozen? ⟨g + 1, 0, none⟩ = false := frozen_of_row _ _ _ _ _ d2
      have q1 : wr.frozen? ⟨g + 1, 1, none⟩ = false := frozen_of_row _ _ _ _ _ d2
      have q2 : wr.frozen? ⟨g + 1, 2, none⟩ = false := frozen_of_row _ _ _ _ _ d2
      have hfin := hfr.out
      have H_d1 := Lib.hid d1; clear d1
      have H_d2 := Lib.hid d2; clear d2
      have H_hfin := Lib.hid hfin; clear hfin
      go_wp2_with (fail)
      refine bodyPost_ret (results_cell_row rfl _ _ (g + 1) 31 #[.bool nb, .slice a l'.length cc, .int .i64 (-((0 : Nat) : Int))] (0, 0) _ rfl (row_set (row_set (row_set H_d2.out))) Tryz.underlying31 rfl (by kernel_rfl)) rfl ?_
      exact ⟨nb, _, _, _, by rw [← H_htrim.out], H_hfin.out.set3 (by have := H_hg.out; omega)⟩
    · have t1 : decide (-(s' : Int) < 0) = true := by simp; omega
      have k0 := row_cell hrow.out 0
      have k1 := row_cell hrow.out 1
      have k2 := row_cell hrow.out 2
      simp at k0 k1 k2
      have H_h0 := Lib.hid h0
      clear h0
      go_wp2_with (fail)
      refine (natShort_any _ l' 10 _ hnat.out (by have := hlen.out; omega) (by omega) (by omega)).mono ?_
      rintro e w2 ⟨q, m, rfl, m1, m2, m3, m4⟩
      obtain ⟨aq, cq, rfl⟩ := m1.form
      have hrem := Nat.mod_lt (sval l') (show 0 < 10 by omega)
      have htr : trimN s' (sval l') = if sval l' % 10 = 0 then trimN (s' - 1) (sval l' / 10) else s' := by
        obtain ⟨j, rfl⟩ : ∃ j, s' = j + 1 := ⟨s' - 1, by have := H_h0.out; omega⟩
        simp [trimN]
      generalize hrr : sval l' % 10 = rr at *
      have e1 := row_fresh hrow.out m4
      have e2 := row_fresh hrow2.out m4
      have e3 := fresh_trans hfr.out m4
      have e4 := hnat.out.fresh m4
      clear k0 k1 k2
      have H_m1 := Lib.hid m1; clear m1
      have H_m2 := Lib.hid m2; clear m2
      have H_m3 := Lib.hid m3; clear m3
      have H_m4 := Lib.hid m4; clear m4
      have H_e1 := Lib.hid e1; clear e1
      have H_e2 := Lib.hid e2; clear e2
      have H_e3 := Lib.hid e3; clear e3
      have H_e4 := Lib.hid e4; clear e4
      have H_htr := Lib.hid htr; clear htr
      have H_hrr := Lib.hid hrr; clear hrr
      by_cases hr0 : rr = 0
      · subst hr0
        have tw : IntKind.i64.wrap (-(s' : Int) + 1) = -(s' : Int) + 1 := by rw [IntKind.wrap_i64]; omega
        have j0 := row_cell H_e1.out 0
        have j1 := row_cell H_e1.out 1
        have j2 := row_cell H_e1.out 2
        simp at j0 j1 j2
        have H_ee := Lib.hid (show trimN s' (sval l') = trimN (s' - 1) (sval l' / 10) by rw [H_htr.out, if_pos rfl])
        clear H_htr
        go_wp2_with (fail)
        refine wp_region_E (S := (fun (w' : World) => w'.cell? ⟨g, 0, none⟩ = some (.bool nb) ∧ w'.cell? ⟨g, 1, none⟩ = some (.slice a l'.length cc) ∧ w'.cell? ⟨g, 2, none⟩ = some (.int .i64 (-(s' : Int))))) 9 (by kernel_rfl) (by exact ⟨j0, j1, j2⟩) (fun hHeld => ?_)
        refine wpAnyE_takeP (i := 0) (v := ?v0_1) rfl (by kernel_rfl) (fun _ _ _ h => h) ⟨by rfl, ?y0_1⟩ (by assumption) ?r0_1
        case y0_1 => (intro w; go_simp; try with_reducible rfl)
        try simp only [Act.put, List.getElem_toArray, List.getElem_cons_zero, List.getElem_cons_succ, List.setIfInBounds_toArray, List.set_cons_zero, List.set_cons_succ]
        refine wpAnyE_takeP (i := 1) (v := ?v1_1) rfl (by kernel_rfl) (fun _ _ _ h => h) ⟨by rfl, ?y1_1⟩ (by assumption) ?r1_1
        case y1_1 => (intro w; go_simp; try with_reducible rfl)
        try simp only [Act.put, List.getElem_toArray, List.getElem_cons_zero, List.getElem_cons_succ, List.setIfInBounds_toArray, List.set_cons_zero, List.set_cons_succ]
        refine wpAnyE_takeL (i := 2) (c := 4) (v := ?v2_1) rfl (by kernel_rfl) (fun _ _ _ h => h) ⟨by rfl, ?y2_1⟩ (by assumption) ?r2_1
        case y2_1 => (intro w hSw; go_split_ands; go_simp; try with_reducible rfl)
        try simp only [Act.put, List.getElem_toArray, List.getElem_cons_zero, List.getElem_cons_succ, List.setIfInBounds_toArray, List.set_cons_zero, List.set_cons_succ]
        refine wpAnyE_takeP (i := 3) (v := ?v3_1) rfl (by kernel_rfl) (fun _ _ _ h => h) ⟨by rfl, ?y3_1⟩ (by assumption) ?r3_1
        case y3_1 => (intro w; go_simp; try with_reducible rfl)
        try simp only [Act.put, List.getElem_toArray, List.getElem_cons_zero, List.getElem_cons_succ, List.setIfInBounds_toArray, List.set_cons_zero, List.set_cons_succ]
        refine wpAnyE_takeP (i := 5) (v := ?v5_1) rfl (by kernel_rfl) (fun _ _ _ h => h) ⟨by rfl, ?y5_1⟩ (by assumption) ?r5_1
        case y5_1 => (intro w; go_simp; try with_reducible rfl)
        try simp only [Act.put, List.getElem_toArray, List.getElem_cons_zero, List.getElem_cons_succ, List.setIfInBounds_toArray, List.set_cons_zero, List.set_cons_succ]
        refine wpAnyE_takeL (i := 6) (c := 7) (v := ?v6_1) rfl (by kernel_rfl) (fun _ _ _ h => h) ⟨by rfl, ?y6_1⟩ (by assumption) ?r6_1
        case y6_1 => (intro w hSw; go_split_ands; go_simp; try with_reducible rfl)
        try simp only [Act.put, List.getElem_toArray, List.getElem_cons_zero, List.getElem_cons_succ, List.setIfInBounds_toArray, List.set_cons_zero, List.set_cons_succ]
        refine wpAnyE_takeP (i := 7) (v := ?v7_1) rfl (by kernel_rfl) (fun _ _ _ h => h) ⟨by rfl, ?y7_1⟩ (by assumption) ?r7_1
        case y7_1 => (intro w; go_simp; try with_reducible rfl)
        try simp only [Act.put, List.getElem_toArray, List.getElem_cons_zero, List.getElem_cons_succ, List.setIfInBounds_toArray, List.set_cons_zero, List.set_cons_succ]
        refine wpAnyE_one (i := 4) rfl (by kernel_rfl) (fun K hK => ?_)
        go_simp
        refine (wholeOf_any _ _ _ _ (show SNat _ _ m from H_m1.out.drew)).mono ?_; rintro e w3 ⟨rfl, r⟩; have hy : Fresh w2 w3 := r.of_drew; have n0 := cell_fresh j0 hy; have n1 := cell_fresh j1 hy; have n2 := cell_fresh j2 hy; have q0 : w3.frozen? ⟨g, 0, none⟩ = false := frozen_of_row _ _ _ _ _ (row_fresh H_e1.out hy); have q1 : w3.frozen? ⟨g, 1, none⟩ = false := frozen_of_row _ _ _ _ _ (row_fresh H_e1.out hy); have q2 : w3.frozen? ⟨g, 2, none⟩ = false := frozen_of_row _ _ _ _ _ (row_fresh H_e1.out hy); have H_hy := Lib.hid hy; clear r hy
        go_wp2_with (fail)
        have hHeld1 : ((fun (w' : World) => w'.cell? ⟨g, 0, none⟩ = some (.bool nb) ∧ w'.cell? ⟨g, 1, none⟩ = some (.slice a l'.length cc) ∧ w'.cell? ⟨g, 2, none⟩ = some (.int .i64 (-(s' : Int))))) _ := ⟨n0, n1, n2⟩
        refine hK.out _ _ (fun _ => hHeld1) ?_
        clear hK K
        try simp only [Act.put, List.getElem_toArray, List.getElem_cons_zero, List.getElem_cons_succ, List.setIfInBounds_toArray, List.set_cons_zero, List.set_cons_succ]
        refine wpAnyE_takeP (i := 8) (v := ?v8_1) rfl (by kernel_rfl) (fun _ _ _ h => h) ⟨by rfl, ?y8_1⟩ (by assumption) ?r8_1
        case y8_1 => (intro w; go_simp; try with_reducible rfl)
        try simp only [Act.put, List.getElem_toArray, List.getElem_cons_zero, List.getElem_cons_succ, List.setIfInBounds_toArray, List.set_cons_zero, List.set_cons_succ]
        refine wpAnyE_one (i := 9) rfl (by kernel_rfl) (fun K hK => ?_)
        go_simp
        refine hK.out _ _ (fun h => Bool.noConfusion (show true = false from h)) ?_
        clear hK K
        try simp only [Act.put, List.getElem_toArray, List.getElem_cons_zero, List.getElem_cons_succ, List.setIfInBounds_toArray, List.set_cons_zero, List.set_cons_succ]
        refine wpAnyE_done (by kernel_rfl) ?_ _
        go_wp2_with (fail)
        go_roundw
        case rel =>
          have g1 := row_fresh H_e1.out H_hy.out
          have g2 := row_fresh H_e2.out H_hy.out
          have g3 := H_m1.out.fresh H_hy.out
          have o1 := g3.off (show w3.cell? ⟨g, 0, none⟩ = some (.bool nb) from n0) (fun n e => by simp at e)
          refine ⟨s' - 1, nb && decide (0 < m.length), aq, m, cq, by omega, Lib.hid ?_, Lib.hid ?_, Lib.hid (((g3.setOff o1).setOff o1).setOff o1), H_m2, Lib.hid ?_, Lib.hid ?_, Lib.hid ((fresh_trans H_e3.out H_hy.out).set3 (by have := H_hg.out; omega))⟩
          · have hh := row_set (i := 2) (v := .int .i64 (-(s' : Int) + 1)) (row_set (i := 1) (v := .slice aq m.length cq) (row_set (i := 0) (v := .bool (nb && decide (0 < m.length))) g1))
            have e : (-((s' - 1 : Nat) : Int)) = -(s' : Int) + 1 := by have := H_h0.out; omega
            rw [e]; exact hh
          · rw [row_far (by omega), row_far (by omega), row_far (by omega)]; exact g2
          · rw [H_m3.out, ← H_ee.out]; exact hval.out
          · have : sval m ≤ sval l' := by rw [H_m3.out]; exact Nat.div_le_self _ _
            have hb := sval_lt hnat.out.lim
            exact Nat.le_trans (H_m2.out.s_len_le (k := l'.length) (by omega)) hlen.out
        case measure =>
          have g1 := row_fresh H_e1.out H_hy.out
          have hh := row_set (i := 2) (v := .int .i64 (-(s' : Int) + 1)) (row_set (i := 1) (v := .slice aq m.length cq) (row_set (i := 0) (v := .bool (nb && decide (0 < m.length))) g1))
          rw [expOf_row hrow.out]
          rw [expOf_row2 hh]
          have := H_h0.out
          omega
      · have t2 : ((rr : Int) == 0) = false := by rw [beq_eq_false_iff_ne]; omega
        have H_htrim := Lib.hid (show (s' : Int) = (trimN s (sval l) : Int) by rw [← hval.out, H_htr.out, if_neg hr0])
        clear H_htr
        have d1 := H_e1.out
        have d2 := H_e2.out
        have k0 := row_cell d1 0
        have k1 := row_cell d1 1
        have k2 := row_cell d1 2
        have p0 := row_cell d2 0
        have p1 := row_cell d2 1
        have p2 := row_cell d2 2
        simp at k0 k1 k2 p0 p1 p2
        have q0 : w2.frozen? ⟨g + 1, 0, none⟩ = false := frozen_of_row _ _ _ _ _ d2
        have q1 : w2.frozen? ⟨g + 1, 1, none⟩ = false := frozen_of_row _ _ _ _ _ d2
        have q2 : w2.frozen? ⟨g + 1, 2, none⟩ = false := frozen_of_row _ _ _ _ _ d2
        have hfin := H_e3.out
        have H_d1 := Lib.hid d1; clear d1
        have H_d2 := Lib.hid d2; clear d2
        have H_hfin := Lib.hid hfin; clear hfin
        go_wp2_with (fail)
        refine bodyPost_ret (results_cell_row rfl _ _ (g + 1) 31 #[.bool nb, .slice a l'.length cc, .int .i64 (-(s' : Int))] (0, 0) _ rfl (row_set (row_set (row_set H_d2.out))) Tryz.underlying31 rfl (by kernel_rfl)) rfl ?_
        exact ⟨nb, _, _, _, by rw [← H_htrim.out], H_hfin.out.set3 (by have := H_hg.out; omega)⟩

end Go.Proofs.YthemaneoighaoaaGreatDoor
