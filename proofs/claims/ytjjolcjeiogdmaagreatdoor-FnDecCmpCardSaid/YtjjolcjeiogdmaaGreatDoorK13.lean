/- arTwo: two decimals made fit, and what they say. -/
import Derived.Test.YtjjolcjeiogdmaaGreatDoorK6
import Derived.Test.YtjjolcjeiogdmaaGreatDoorK9
import Derived.Test.YtjjolcjeiogdmaaGreatDoorK11
import Derived.Test.YtjjolcjeiogdmaaGreatDoorK12
namespace Go.Proofs.YtjjolcjeiogdmaaGreatDoor
open Go.RowKit

theorem boxes6 (w : World) (c1 c2 c3 c4 c5 c6 : Array Value) (T1 T2 T3 T4 T5 T6 : TypeId) : ∀ g, g = w.heap.size → ∀ w1, (((((w.alloc (.cells c1 T1)).alloc (.cells c2 T2)).alloc (.cells c3 T3)).alloc (.cells c4 T4)).alloc (.cells c5 T5)).alloc (.cells c6 T6) = w1 →
    w1.heap[g]? = some (.cells c1 T1 (0, 0)) ∧ w1.heap[g + 1]? = some (.cells c2 T2 (0, 0)) ∧ w1.heap[g + 1 + 1]? = some (.cells c3 T3 (0, 0)) ∧ w1.heap[g + 1 + 1 + 1]? = some (.cells c4 T4 (0, 0)) ∧ w1.heap[g + 1 + 1 + 1 + 1]? = some (.cells c5 T5 (0, 0)) ∧ w1.heap[g + 1 + 1 + 1 + 1 + 1]? = some (.cells c6 T6 (0, 0)) ∧ Fresh w w1 := by
  rintro g rfl w1 rfl
  obtain ⟨h1, h2, h3, h4, _⟩ := boxes3 w c1 c2 c3 T1 T2 T3 _ rfl _ rfl
  obtain ⟨s1, s2, s3, s4, _⟩ := boxes3 (((w.alloc (.cells c1 T1)).alloc (.cells c2 T2)).alloc (.cells c3 T3)) c4 c5 c6 T4 T5 T6 _ rfl _ rfl
  have hs : (((w.alloc (.cells c1 T1)).alloc (.cells c2 T2)).alloc (.cells c3 T3)).heap.size = w.heap.size + 1 + 1 + 1 := by simp
  rw [hs] at s1 s2 s3
  exact ⟨row_fresh h1 s4, row_fresh h2 s4, row_fresh h3 s4, s1, s2, s3, fresh_trans h4 s4⟩

theorem far_cell {w : World} {h o g o' : Nat} {v : Value} {u : Option Value} (hne : h ≠ g) (k : w.cell? ⟨h, o, none⟩ = u) : (w.setCell ⟨g, o', none⟩ v).cell? ⟨h, o, none⟩ = u := by
  rw [cell?_setCell_ne (.inl hne)]; exact k

theorem results_cell4 {P : Program} {fn : Func} {p1 p2 p3 p4 : Tmp} {ty1 ty2 ty3 ty4 : TypeId} {v1 v2 v3 v4 : Value} (h : fn.results = #[.cell p1 ty1, .cell p2 ty2, .cell p3 ty3, .cell p4 ty4]) (tmps : Array Value) (w : World) (g1 g2 g3 g4 : Nat)
    (h1 : tmps.getD p1 undef = .pointer (some ⟨g1, 0, none⟩)) (h2 : tmps.getD p2 undef = .pointer (some ⟨g2, 0, none⟩)) (h3 : tmps.getD p3 undef = .pointer (some ⟨g3, 0, none⟩)) (h4 : tmps.getD p4 undef = .pointer (some ⟨g4, 0, none⟩))
    (e1 : (loadVar ty1 ⟨g1, 0, none⟩).run P w = .ok v1 w) (e2 : (loadVar ty2 ⟨g2, 0, none⟩).run P w = .ok v2 w) (e3 : (loadVar ty3 ⟨g3, 0, none⟩).run P w = .ok v3 w) (e4 : (loadVar ty4 ⟨g4, 0, none⟩).run P w = .ok v4 w) :
    (results fn tmps).run P w = .ok (.tuple #[v1, v2, v3, v4]) w := by
  have h1' : tmps[p1]?.getD undef = .pointer (some ⟨g1, 0, none⟩) := by simpa using h1
  have h2' : tmps[p2]?.getD undef = .pointer (some ⟨g2, 0, none⟩) := by simpa using h2
  have h3' : tmps[p3]?.getD undef = .pointer (some ⟨g3, 0, none⟩) := by simpa using h3
  have h4' : tmps[p4]?.getD undef = .pointer (some ⟨g4, 0, none⟩) := by simpa using h4
  simp [results, h, h1', h2', h3', h4', asAddr, e1, e2, e3, e4, Sem.run_bind, Result.andThen]

theorem SFr.set2 {w : World} {g : Nat} {x u : Value} {z : Int} {d : Nat} (h : SFr w x z d) (hc : w.cell? ⟨g, 0, none⟩ = some u) (hu : ∀ n, u ≠ wd .u32 n) (v1 v2 : Value) :
    SFr ((w.setCell ⟨g, 0, none⟩ v1).setCell ⟨g, 1, none⟩ v2) x z d := by
  obtain ⟨neg, v, l, dv, dl, h1, h2, h3, h4, h5, h6, h7⟩ := h
  have o1 := h2.off hc hu
  have o2 := h6.off hc hu
  exact ⟨neg, v, l, dv, dl, h1, (h2.setOff o1).setOff o1, h3, h4, h5, (h6.setOff o2).setOff o2, h7⟩

theorem four_rows {w : World} {k1 k2 k3 k4 : Nat} {a1 a2 b1 b2 c1 c2 c3 d1 d2 d3 : Value} {T1 T2 T3 T4 : TypeId} (n12 : k1 ≠ k2) (n13 : k1 ≠ k3) (n14 : k1 ≠ k4) (n23 : k2 ≠ k3) (n24 : k2 ≠ k4) (n34 : k3 ≠ k4)
    (r1 : w.heap[k1]? = some (.cells #[a1, a2] T1 (0, 0))) (r2 : w.heap[k2]? = some (.cells #[b1, b2] T2 (0, 0)))
    (r3 : w.heap[k3]? = some (.cells #[c1, c2, c3] T3 (0, 0))) (r4 : w.heap[k4]? = some (.cells #[d1, d2, d3] T4 (0, 0))) (x1 x2 y1 y2 u1 u2 u3 v1 v2 v3 : Value)
    (ha : ∀ n, a1 ≠ wd .u32 n) (hb : ∀ n, b1 ≠ wd .u32 n) (hc : ∀ n, c1 ≠ wd .u32 n) (hd : ∀ n, d1 ≠ wd .u32 n) :
    ∀ W, ((((((((((w.setCell ⟨k1, 0, none⟩ x1).setCell ⟨k1, 1, none⟩ x2).setCell ⟨k2, 0, none⟩ y1).setCell ⟨k2, 1, none⟩ y2).setCell ⟨k3, 0, none⟩ u1).setCell ⟨k3, 1, none⟩ u2).setCell ⟨k3, 2, none⟩ u3).setCell ⟨k4, 0, none⟩ v1).setCell ⟨k4, 1, none⟩ v2).setCell ⟨k4, 2, none⟩ v3) = W →
      W.heap[k1]? = some (.cells #[x1, x2] T1 (0, 0)) ∧ W.heap[k2]? = some (.cells #[y1, y2] T2 (0, 0)) ∧ W.heap[k3]? = some (.cells #[u1, u2, u3] T3 (0, 0)) ∧ W.heap[k4]? = some (.cells #[v1, v2, v3] T4 (0, 0))
        ∧ (∀ x z d, SFr w x z d → SFr W x z d) ∧ ∀ w0 : World, w0.heap.size ≤ k1 → w0.heap.size ≤ k2 → w0.heap.size ≤ k3 → w0.heap.size ≤ k4 → Fresh w0 w → Fresh w0 W := by
  rintro W rfl
  have p1 := row_cell r1 0
  have p2 := row_cell r2 0
  have p3 := row_cell r3 0
  have p4 := row_cell r4 0
  simp at p1 p2 p3 p4
  refine ⟨row3_ne (Ne.symm n14) (row3_ne (Ne.symm n13) (row_set_ne (Ne.symm n12) (row_set_ne (Ne.symm n12) (row_set (row_set r1))))),
    row3_ne (Ne.symm n24) (row3_ne (Ne.symm n23) (row_set (row_set (row_set_ne n12 (row_set_ne n12 r2))))),
    row3_ne (Ne.symm n34) (row3 (row_set_ne n23 (row_set_ne n23 (row_set_ne n13 (row_set_ne n13 r3))))),
    row3 (row3_ne n34 (row_set_ne n24 (row_set_ne n24 (row_set_ne n14 (row_set_ne n14 r4))))), fun x z d h => ?_, fun w0 e1 e2 e3 e4 h => ?_⟩
  · have h1 := SFr.set2 h p1 ha x1 x2
    have h2 := SFr.set2 h1 (far_cell (Ne.symm n12) (far_cell (Ne.symm n12) p2)) hb y1 y2
    have h3 := SFr.set3 h2 (far_cell (Ne.symm n23) (far_cell (Ne.symm n23) (far_cell (Ne.symm n13) (far_cell (Ne.symm n13) p3)))) hc u1 u2 u3
    exact SFr.set3 h3 (far_cell (Ne.symm n34) (far_cell (Ne.symm n34) (far_cell (Ne.symm n34) (far_cell (Ne.symm n24) (far_cell (Ne.symm n24) (far_cell (Ne.symm n14) (far_cell (Ne.symm n14) p4))))))) hd v1 v2 v3
  · have s2 : ∀ {w1 : World} {j : Nat}, Fresh w0 w1 → w0.heap.size ≤ j → ∀ v1 v2, Fresh w0 ((w1.setCell ⟨j, 0, none⟩ v1).setCell ⟨j, 1, none⟩ v2) := fun h hj v1 v2 =>
      (h.setCell (p := ⟨_, 0, none⟩) (fun hk => by have := Nat.lt_of_lt_of_le hk hj; exact Nat.lt_irrefl _ this) v1).setCell (p := ⟨_, 1, none⟩) (fun hk => by have := Nat.lt_of_lt_of_le hk hj; exact Nat.lt_irrefl _ this) v2
    exact Fresh.set3 (Fresh.set3 (s2 (s2 h e1 x1 x2) e2 y1 y2) e3) e4

/-- one operation of a plain region that yields a value -/
theorem wl_value {P : Program} {ops : Array Oper} {Q : Exit → Act → World → Prop} {rest : List Oper} {o : Oper} {a : Act} {w w' : World} {v : Value} (hg : o.guard = none) (hr : (execOp a.eval o).run P w = .ok (.value v) w') (h : wpList P ops Q rest (a.put o.dst v) w') : wpList P ops Q (o :: rest) a w := by
  unfold wpList
  have hw : Region.wanted o (yielded ops a.tmps) = true := by unfold Region.wanted; rw [hg]
  rw [if_pos hw]
  refine .inl ?_
  unfold Oper.wp
  rw [hr]
  exact h

theorem wl_skip {P : Program} {ops : Array Oper} {Q : Exit → Act → World → Prop} {rest : List Oper} {o : Oper} {a : Act} {w w' : World} (hg : o.guard = none) (hr : (execOp a.eval o).run P w = .ok .skip w') (h : wpList P ops Q rest (a.put o.dst undef) w') : wpList P ops Q (o :: rest) a w := by
  unfold wpList
  have hw : Region.wanted o (yielded ops a.tmps) = true := by unfold Region.wanted; rw [hg]
  rw [if_pos hw]
  refine .inl ?_
  unfold Oper.wp
  rw [hr]
  exact h

theorem DecFit_60 (S : List Nat) (ex : Int) (w : World) (hS : ∀ c ∈ S, c < 256) (hlen : S.length ≤ 2147483647) (hex : -9223372036854775808 ≤ ex ∧ ex ≤ 9223372036854775807) :
    Calls Tryz.prog 18 #[.agg #[.string (bstr S), .int .i64 ex], .int .i64 60, .int .i64 60] w (fun e w' => ∃ z x : Int, e = .returned (.agg #[.string (bstr (wdig z)), .int .i64 x]) ∧ z.natAbs < 10 ^ 60 ∧ -60 ≤ x ∧ x ≤ 60 ∧ Fresh w w') :=
  DecFit_any S ex 60 60 w hS hlen (by omega) (by omega) hex

set_option maxRecDepth 20000 in
set_option maxHeartbeats 4000000 in
theorem arTwo_any (S1 S2 : List Nat) (x1 x2 : Int) (w : World) (hS1 : ∀ c ∈ S1, c < 256) (hS2 : ∀ c ∈ S2, c < 256) (hl1 : S1.length ≤ 2147483647) (hl2 : S2.length ≤ 2147483647) (hx1 : -9223372036854775808 ≤ x1 ∧ x1 ≤ 9223372036854775807) (hx2 : -9223372036854775808 ≤ x2 ∧ x2 ≤ 9223372036854775807) :
    Calls Tryz.prog 8 #[.agg #[.string (bstr S1), .int .i64 x1], .agg #[.string (bstr S2), .int .i64 x2]] w (fun r w' => ∃ (z1 e1 z2 e2 : Int) (f1 f2 : Value), r = .returned (.tuple #[.agg #[.string (bstr (wdig z1)), .int .i64 e1], .agg #[.string (bstr (wdig z2)), .int .i64 e2], f1, f2])
      ∧ z1.natAbs < 10 ^ 60 ∧ (-60 ≤ e1 ∧ e1 ≤ 60) ∧ z2.natAbs < 10 ^ 60 ∧ (-60 ≤ e2 ∧ e2 ≤ 60) ∧ SFr w' f1 (dnum z1 e1) (dden e1) ∧ SFr w' f2 (dnum z2 e2) (dden e2) ∧ Fresh w w') := by
  have hf1 := fun W => DecFit_60 S1 x1 W hS1 hl1 hx1
  have hf2 := fun W => DecFit_60 S2 x2 W hS2 hl2 hx2
  generalize bstr S1 = s1 at *
  generalize bstr S2 = s2 at *
  clear hS1 hS2 hl1 hl2 hx1 hx2
  obtain ⟨g, hg⟩ : ∃ g, g = w.heap.size := ⟨_, rfl⟩
  have bx := boxes6 w #[.string s1, .int .i64 x1] #[.string s2, .int .i64 x2] #[.string ⟨#[]⟩, .int .i64 0] #[.string ⟨#[]⟩, .int .i64 0] #[.bool false, .slice none 0 0, .slice none 0 0] #[.bool false, .slice none 0 0, .slice none 0 0] 23 23 23 23 30 30 g hg
  have H_bx := Lib.hid bx; clear bx
  have H_hf1 := Lib.hid hf1; clear hf1
  have H_hf2 := Lib.hid hf2; clear hf2
  go_enter Tryz.func8, Tryz.ntmps8
  go_wp2_with (fail)
  generalize hw1 : (((((w.alloc _).alloc _).alloc _).alloc _).alloc _).alloc _ = w1
  rw [← hg]
  obtain ⟨b1, b2, b3, b4, b5, b6, hf⟩ := H_bx.out w1 hw1
  have k0 := row_cell b1 0
  have k1 := row_cell b1 1
  have m0 := row_cell b2 0
  have m1 := row_cell b2 1
  simp at k0 k1 m0 m1
  have H_b1 := Lib.hid b1; clear b1
  have H_b2 := Lib.hid b2; clear b2
  have H_b3 := Lib.hid b3; clear b3
  have H_b4 := Lib.hid b4; clear b4
  have H_b5 := Lib.hid b5; clear b5
  have H_b6 := Lib.hid b6; clear b6
  have H_hf := Lib.hid hf; clear hf
  have H_hw1 := Lib.hid hw1; clear hw1
  have H_hg := Lib.hid hg; clear hg
  refine wp_region_E (S := (fun (w' : World) => w'.cell? ⟨g, 0, none⟩ = some (.string s1) ∧ w'.cell? ⟨g, 1, none⟩ = some (.int .i64 x1) ∧ w'.cell? ⟨g + 1, 0, none⟩ = some (.string s2) ∧ w'.cell? ⟨g + 1, 1, none⟩ = some (.int .i64 x2))) 4 (by kernel_rfl) (by exact ⟨k0, k1, m0, m1⟩) (fun hHeld => ?_)
  refine wpAnyE_takeL (i := 0) (c := 1) (v := ?v0_1) rfl (by kernel_rfl) (fun _ _ _ h => h) ⟨by rfl, ?y0_1⟩ (by assumption) ?r0_1
  case y0_1 => (intro w hSw; go_split_ands; go_simp; try with_reducible rfl)
  try simp only [Act.put, yA, yB, yD, yE, yF]
  refine wpAnyE_takeL (i := 2) (c := 3) (v := ?v2_1) rfl (by kernel_rfl) (fun _ _ _ h => h) ⟨by rfl, ?y2_1⟩ (by assumption) ?r2_1
  case y2_1 => (intro w hSw; go_split_ands; go_simp; try with_reducible rfl)
  try simp only [Act.put, yA, yB, yC, yD, yE, yF]
  refine wpAnyE_one (i := 1) rfl (by kernel_rfl) (fun K hK => ?_)
  go_simp
  refine (H_hf1.out _).mono ?_; rintro r w2 ⟨z1, e1, rfl, q1, q2, q3, y⟩; have y2 : Fresh w1 w2 := y.of_drew; have j0 := cell_fresh k0 y2; have j1 := cell_fresh k1 y2; have n0 := cell_fresh m0 y2; have n1 := cell_fresh m1 y2; have H_f2 := Lib.hid y2; have H_q1 := Lib.hid q1; have H_q2 := Lib.hid q2; have H_q3 := Lib.hid q3; clear y y2 q1 q2 q3
  go_wp2_with (fail)
  have hHeld1 : ((fun (w' : World) => w'.cell? ⟨g, 0, none⟩ = some (.string s1) ∧ w'.cell? ⟨g, 1, none⟩ = some (.int .i64 x1) ∧ w'.cell? ⟨g + 1, 0, none⟩ = some (.string s2) ∧ w'.cell? ⟨g + 1, 1, none⟩ = some (.int .i64 x2))) _ := ⟨j0, j1, n0, n1⟩
  refine hK.out _ _ (fun _ => hHeld1) ?_
  clear hK K
  try simp only [Act.put, yA, yB, yC, yD, yE, yF]
  refine wpAnyE_one (i := 3) rfl (by kernel_rfl) (fun K hK => ?_)
  go_simp
  refine (H_hf2.out _).mono ?_; rintro r w3 ⟨z2, e2, rfl, q4, q5, q6, y3⟩; have f3 := fresh_trans H_f2.out y3; have d1 := row_fresh H_b1.out f3; have d2 := row_fresh H_b2.out f3; have u0 := row_cell d1 0; have u1 := row_cell d1 1; have v0 := row_cell d2 0; have v1 := row_cell d2 1; simp at u0 u1 v0 v1; have a0 : w3.frozen? ⟨g, 0, none⟩ = false := frozen_of_row _ _ _ _ _ d1; have a1 : w3.frozen? ⟨g, 1, none⟩ = false := frozen_of_row _ _ _ _ _ d1; have a2 : w3.frozen? ⟨g + 1, 0, none⟩ = false := frozen_of_row _ _ _ _ _ d2; have a3 : w3.frozen? ⟨g + 1, 1, none⟩ = false := frozen_of_row _ _ _ _ _ d2; have H_d1 := Lib.hid d1; have H_d2 := Lib.hid d2; have H_f3 := Lib.hid f3; have H_q4 := Lib.hid q4; have H_q5 := Lib.hid q5; have H_q6 := Lib.hid q6; clear y3 d1 d2 f3 q4 q5 q6
  go_wp2_with (fail)
  have hHeld2 : ((fun (w' : World) => w'.cell? ⟨g, 0, none⟩ = some (.string s1) ∧ w'.cell? ⟨g, 1, none⟩ = some (.int .i64 x1) ∧ w'.cell? ⟨g + 1, 0, none⟩ = some (.string s2) ∧ w'.cell? ⟨g + 1, 1, none⟩ = some (.int .i64 x2))) _ := ⟨u0, u1, v0, v1⟩
  refine hK.out _ _ (fun _ => hHeld2) ?_
  clear hK K
  try simp only [Act.put, yA, yB, yC, yD, yE, yF]
  refine wpAnyE_one (i := 4) rfl (by kernel_rfl) (fun K hK => ?_)
  go_simp
  refine hK.out _ _ (fun h => Bool.noConfusion (show true = false from h)) ?_
  clear hK K
  try simp only [Act.put, yA, yB, yC, yD, yE, yF]
  refine wpAnyE_one (i := 5) rfl (by kernel_rfl) (fun K hK => ?_)
  go_simp
  refine hK.out _ _ (fun h => Bool.noConfusion (show true = false from h)) ?_
  clear hK K
  try simp only [Act.put, yA, yB, yC, yD, yE, yF]
  refine wpAnyE_done (by kernel_rfl) ?_ _
  have r1 := row_set (i := 1) (v := .int .i64 e1) (row_set (i := 0) (v := .string (bstr (wdig z1))) H_d1.out)
  have r2 := row_set (i := 1) (v := .int .i64 e2) (row_set (i := 0) (v := .string (bstr (wdig z2))) (row_set_ne (i := 1) (v := .int .i64 e1) (by omega : g ≠ g + 1) (row_set_ne (i := 0) (v := .string (bstr (wdig z1))) (by omega : g ≠ g + 1) H_d2.out)))
  have r1 := row_set_ne (i := 1) (v := .int .i64 e2) (by omega : g + 1 ≠ g) (row_set_ne (i := 0) (v := .string (bstr (wdig z2))) (by omega : g + 1 ≠ g) r1)
  have hgw := H_hg.out
  have f4 := ((((fresh_trans H_hf.out H_f3.out).setCell (p := ⟨g, 0, none⟩) (fun h => by change g < w.heap.size at h; omega) (.string (bstr (wdig z1)))).setCell (p := ⟨g, 1, none⟩) (fun h => by change g < w.heap.size at h; omega) (.int .i64 e1)).setCell (p := ⟨g + 1, 0, none⟩) (fun h => by change g + 1 < w.heap.size at h; omega) (.string (bstr (wdig z2)))).setCell (p := ⟨g + 1, 1, none⟩) (fun h => by change g + 1 < w.heap.size at h; omega) (.int .i64 e2)
  have ne : ∀ k c, g + 1 < k → w3.heap[k]? = c → ((((w3.setCell ⟨g, 0, none⟩ (.string (bstr (wdig z1)))).setCell ⟨g, 1, none⟩ (.int .i64 e1)).setCell ⟨g + 1, 0, none⟩ (.string (bstr (wdig z2)))).setCell ⟨g + 1, 1, none⟩ (.int .i64 e2)).heap[k]? = c := fun k c hk h =>
    row_set_ne (by omega) (row_set_ne (by omega) (row_set_ne (by omega) (row_set_ne (by omega) h)))
  have c3 := ne _ _ (by omega) (row_fresh H_b3.out H_f3.out)
  have c4 := ne _ _ (by omega) (row_fresh H_b4.out H_f3.out)
  have c5 := ne _ _ (by omega) (row_fresh H_b5.out H_f3.out)
  have c6 := ne _ _ (by omega) (row_fresh H_b6.out H_f3.out)
  clear ne
  generalize hw4 : (((w3.setCell ⟨g, 0, none⟩ (.string (bstr (wdig z1)))).setCell ⟨g, 1, none⟩ (.int .i64 e1)).setCell ⟨g + 1, 0, none⟩ (.string (bstr (wdig z2)))).setCell ⟨g + 1, 1, none⟩ (.int .i64 e2) = w4 at *
  simp at r1 r2
  have fr1 := fun W => FracOf_any z1 e1 W (Nat.le_trans (wdig_len_le H_q1.out (by omega)) (by omega)) (by have := H_q2.out; have := H_q3.out; omega)
  have fr2 := fun W => FracOf_any z2 e2 W (Nat.le_trans (wdig_len_le H_q4.out (by omega)) (by omega)) (by have := H_q5.out; have := H_q6.out; omega)
  have i0 := row_cell r1 0
  have i1 := row_cell r1 1
  have l0 := row_cell r2 0
  have l1 := row_cell r2 1
  simp at i0 i1 l0 l1
  generalize hz1 : bstr (wdig z1) = t1 at *
  generalize hz2 : bstr (wdig z2) = t2 at *
  generalize hN1 : dnum z1 e1 = N1 at *
  generalize hN2 : dnum z2 e2 = N2 at *
  generalize hD1 : dden e1 = D1 at *
  generalize hD2 : dden e2 = D2 at *
  clear k0 k1 m0 m1 j0 j1 n0 n1 u0 u1 v0 v1 a0 a1 a2 a3
  clear H_hf1 H_hf2 H_f2 H_d1 H_d2 H_b1 H_b2 H_b3 H_b4 H_b5 H_b6 H_f3 H_hf
  have H_r1 := Lib.hid r1; clear r1
  have H_r2 := Lib.hid r2; clear r2
  have H_f4 := Lib.hid f4; clear f4
  have H_c3 := Lib.hid c3; clear c3
  have H_c4 := Lib.hid c4; clear c4
  have H_c5 := Lib.hid c5; clear c5
  have H_c6 := Lib.hid c6; clear c6
  have H_hw4 := Lib.hid hw4; clear hw4
  have H_fr1 := Lib.hid fr1; clear fr1
  have H_fr2 := Lib.hid fr2; clear fr2
  have H_hz1 := Lib.hid hz1; clear hz1
  have H_hz2 := Lib.hid hz2; clear hz2
  have H_hN1 := Lib.hid hN1; clear hN1
  have H_hN2 := Lib.hid hN2; clear hN2
  have H_hD1 := Lib.hid hD1; clear hD1
  have H_hD2 := Lib.hid hD2; clear hD2
  have H_hgw := Lib.hid hgw; clear hgw
  go_wp2_with (fail)
  refine wp_region_E (S := (fun (w' : World) => w'.cell? ⟨g, 0, none⟩ = some (.string t1) ∧ w'.cell? ⟨g, 1, none⟩ = some (.int .i64 e1) ∧ w'.cell? ⟨g + 1, 0, none⟩ = some (.string t2) ∧ w'.cell? ⟨g + 1, 1, none⟩ = some (.int .i64 e2))) 9 (by kernel_rfl) (by exact ⟨i0, i1, l0, l1⟩) (fun hHeld => ?_)
  refine wpAnyE_takeL (i := 0) (c := 6) (v := ?v0_2) rfl (by kernel_rfl) (fun _ _ _ h => h) ⟨by rfl, ?y0_2⟩ (by assumption) ?r0_2
  case y0_2 => (intro w hSw; go_split_ands; go_simp; try with_reducible rfl)
  try simp only [Act.put, yA, yB, yD, yE, yF]
  refine wpAnyE_takeL (i := 1) (c := 7) (v := ?v1_2) rfl (by kernel_rfl) (fun _ _ _ h => h) ⟨by rfl, ?y1_2⟩ (by assumption) ?r1_2
  case y1_2 => (intro w hSw; go_split_ands; go_simp; try with_reducible rfl)
  try simp only [Act.put, yA, yB, yC, yD, yE, yF]
  refine wpAnyE_takeL (i := 2) (c := 3) (v := ?v2_2) rfl (by kernel_rfl) (fun _ _ _ h => h) ⟨by rfl, ?y2_2⟩ (by assumption) ?r2_2
  case y2_2 => (intro w hSw; go_split_ands; go_simp; try with_reducible rfl)
  try simp only [Act.put, yA, yB, yC, yD, yE, yF]
  refine wpAnyE_takeL (i := 4) (c := 5) (v := ?v4_2) rfl (by kernel_rfl) (fun _ _ _ h => h) ⟨by rfl, ?y4_2⟩ (by assumption) ?r4_2
  case y4_2 => (intro w hSw; go_split_ands; go_simp; try with_reducible rfl)
  try simp only [Act.put, yA, yB, yC, yD, yE, yF]
  refine wpAnyE_one (i := 3) rfl (by kernel_rfl) (fun K hK => ?_)
  go_simp
  refine (H_fr1.out _).mono ?_; rintro r w5 ⟨f1, rfl, x5, y⟩; have y5 : Fresh w4 w5 := y.of_drew; have j0 := cell_fresh i0 y5; have j1 := cell_fresh i1 y5; have m0 := cell_fresh l0 y5; have m1 := cell_fresh l1 y5; have H_f5 := Lib.hid y5; have H_x5 := Lib.hid x5; clear y y5 x5
  go_wp2_with (fail)
  have hHeld1 : ((fun (w' : World) => w'.cell? ⟨g, 0, none⟩ = some (.string t1) ∧ w'.cell? ⟨g, 1, none⟩ = some (.int .i64 e1) ∧ w'.cell? ⟨g + 1, 0, none⟩ = some (.string t2) ∧ w'.cell? ⟨g + 1, 1, none⟩ = some (.int .i64 e2))) _ := ⟨j0, j1, m0, m1⟩
  refine hK.out _ _ (fun _ => hHeld1) ?_
  clear hK K
  try simp only [Act.put, yA, yB, yC, yD, yE, yF]
  refine wpAnyE_one (i := 5) rfl (by kernel_rfl) (fun K hK => ?_)
  go_simp
  refine (H_fr2.out _).mono ?_; rintro r w6 ⟨f2, rfl, x6, y6⟩; have x5 := H_x5.out.fresh y6; have f46 := fresh_trans H_f5.out y6; have n0 := cell_fresh j0 y6; have n1 := cell_fresh j1 y6; have o0 := cell_fresh m0 y6; have o1 := cell_fresh m1 y6; obtain ⟨na, va, la, da, dla, rfl, xa1, xa2, xa3, xa4, xa5, xa6⟩ := x5; obtain ⟨nb, vb, lb, db, dlb, rfl, xb1, xb2, xb3, xb4, xb5, xb6⟩ := x6; obtain ⟨aa, ca, rfl⟩ := xa1.form; obtain ⟨ab, cb, rfl⟩ := xb1.form; obtain ⟨ac, cc, rfl⟩ := xa5.form; obtain ⟨ad, cd, rfl⟩ := xb5.form; have hsa := (⟨na, _, la, _, dla, rfl, xa1, xa2, xa3, xa4, xa5, xa6⟩ : SFr w6 _ N1 D1); have hsb := (⟨nb, _, lb, _, dlb, rfl, xb1, xb2, xb3, xb4, xb5, xb6⟩ : SFr w6 _ N2 D2); clear xa1 xa2 xa3 xa4 xa5 xa6 xb1 xb2 xb3 xb4 xb5 xb6; generalize la.length = ln1 at *; generalize lb.length = ln2 at *; generalize dla.length = ln3 at *; generalize dlb.length = ln4 at *; clear la lb dla dlb i0 i1 l0 l1; have d3 := row_fresh H_c3.out f46; have d4 := row_fresh H_c4.out f46; have d5 := row_fresh H_c5.out f46; have d6 := row_fresh H_c6.out f46; have p0 := row_cell d3 0; have p1 := row_cell d3 1; have p2 := row_cell d4 0; have p3 := row_cell d4 1; have p4 := row_cell d5 0; have p5 := row_cell d5 1; have p6 := row_cell d5 2; have p7 := row_cell d6 0; have p8 := row_cell d6 1; have p9 := row_cell d6 2; simp at p0 p1 p2 p3 p4 p5 p6 p7 p8 p9; have s0 : w6.frozen? ⟨g + 1 + 1, 0, none⟩ = false := frozen_of_row _ _ _ _ _ d3; have s1 : w6.frozen? ⟨g + 1 + 1, 1, none⟩ = false := frozen_of_row _ _ _ _ _ d3; have s2 : w6.frozen? ⟨g + 1 + 1 + 1, 0, none⟩ = false := frozen_of_row _ _ _ _ _ d4; have s3 : w6.frozen? ⟨g + 1 + 1 + 1, 1, none⟩ = false := frozen_of_row _ _ _ _ _ d4; have s4 : w6.frozen? ⟨g + 1 + 1 + 1 + 1, 0, none⟩ = false := frozen_of_row _ _ _ _ _ d5; have s5 : w6.frozen? ⟨g + 1 + 1 + 1 + 1, 1, none⟩ = false := frozen_of_row _ _ _ _ _ d5; have s6 : w6.frozen? ⟨g + 1 + 1 + 1 + 1, 2, none⟩ = false := frozen_of_row _ _ _ _ _ d5; have s7 : w6.frozen? ⟨g + 1 + 1 + 1 + 1 + 1, 0, none⟩ = false := frozen_of_row _ _ _ _ _ d6; have s8 : w6.frozen? ⟨g + 1 + 1 + 1 + 1 + 1, 1, none⟩ = false := frozen_of_row _ _ _ _ _ d6; have s9 : w6.frozen? ⟨g + 1 + 1 + 1 + 1 + 1, 2, none⟩ = false := frozen_of_row _ _ _ _ _ d6; have H_d3 := Lib.hid d3; have H_d4 := Lib.hid d4; have H_d5 := Lib.hid d5; have H_d6 := Lib.hid d6; have H_f6 := Lib.hid f46; have H_sa := Lib.hid hsa; have H_sb := Lib.hid hsb;clear y6 f46 d3 d4 d5 d6 hsa hsb j0 j1 m0 m1
  go_wp2_with (fail)
  have hHeld2 : ((fun (w' : World) => w'.cell? ⟨g, 0, none⟩ = some (.string t1) ∧ w'.cell? ⟨g, 1, none⟩ = some (.int .i64 e1) ∧ w'.cell? ⟨g + 1, 0, none⟩ = some (.string t2) ∧ w'.cell? ⟨g + 1, 1, none⟩ = some (.int .i64 e2))) _ := ⟨n0, n1, o0, o1⟩
  refine hK.out _ _ (fun _ => hHeld2) ?_
  clear hK K
  try simp only [Act.put, yA, yB, yC, yD, yE, yF]
  refine wpAnyE_one (i := 6) rfl (by kernel_rfl) (fun K hK => ?_)
  go_simp
  skip
  refine hK.out _ _ (fun _ => ?hs6_2) ?_
  case hs6_2 => exact ⟨(far_cell (by omega) (far_cell (by omega) n0)), (far_cell (by omega) (far_cell (by omega) n1)), (far_cell (by omega) (far_cell (by omega) o0)), (far_cell (by omega) (far_cell (by omega) o1))⟩
  clear hK K
  try simp only [Act.put, yA, yB, yC, yD, yE, yF]
  refine wpAnyE_one (i := 7) rfl (by kernel_rfl) (fun K hK => ?_)
  go_simp
  skip
  refine hK.out _ _ (fun _ => ?hs7_2) ?_
  case hs7_2 => exact ⟨(far_cell (by omega) (far_cell (by omega) (far_cell (by omega) (far_cell (by omega) n0)))), (far_cell (by omega) (far_cell (by omega) (far_cell (by omega) (far_cell (by omega) n1)))), (far_cell (by omega) (far_cell (by omega) (far_cell (by omega) (far_cell (by omega) o0)))), (far_cell (by omega) (far_cell (by omega) (far_cell (by omega) (far_cell (by omega) o1))))⟩
  clear hK K
  try simp only [Act.put, yA, yB, yC, yD, yE, yF]
  refine wpAnyE_one (i := 8) rfl (by kernel_rfl) (fun K hK => ?_)
  go_simp
  skip
  refine hK.out _ _ (fun _ => ?hs8_2) ?_
  case hs8_2 => exact ⟨(far_cell (by omega) (far_cell (by omega) (far_cell (by omega) (far_cell (by omega) (far_cell (by omega) (far_cell (by omega) (far_cell (by omega) n0))))))), (far_cell (by omega) (far_cell (by omega) (far_cell (by omega) (far_cell (by omega) (far_cell (by omega) (far_cell (by omega) (far_cell (by omega) n1))))))), (far_cell (by omega) (far_cell (by omega) (far_cell (by omega) (far_cell (by omega) (far_cell (by omega) (far_cell (by omega) (far_cell (by omega) o0))))))), (far_cell (by omega) (far_cell (by omega) (far_cell (by omega) (far_cell (by omega) (far_cell (by omega) (far_cell (by omega) (far_cell (by omega) o1)))))))⟩
  clear hK K
  try simp only [Act.put, yA, yB, yC, yD, yE, yF]
  refine wpAnyE_one (i := 9) rfl (by kernel_rfl) (fun K hK => ?_)
  go_simp
  refine hK.out _ _ (fun h => Bool.noConfusion (show true = false from h)) ?_
  clear hK K
  try simp only [Act.put, yA, yB, yC, yD, yE, yF]
  refine wpAnyE_done (by kernel_rfl) ?_ _
  go_wp2_with (fail)
  generalize hw7 : ((((((((((w6.setCell _ _).setCell _ _).setCell _ _).setCell _ _).setCell _ _).setCell _ _).setCell _ _).setCell _ _).setCell _ _).setCell _ _) = w7
  obtain ⟨g1, g2, g3, g4, gs, gf⟩ := four_rows (by omega) (by omega) (by omega) (by omega) (by omega) (by omega) H_d3.out H_d4.out H_d5.out H_d6.out _ _ _ _ _ _ _ _ _ _ (by intro n; simp [wd]) (by intro n; simp [wd]) (by intro n; simp [wd]) (by intro n; simp [wd]) w7 hw7
  have hsa := gs _ _ _ H_sa.out
  have hsb := gs _ _ _ H_sb.out
  have hgw := H_hgw.out
  have hff := gf w (by omega) (by omega) (by omega) (by omega) (fresh_trans H_f4.out H_f6.out)
  refine bodyPost_ret (results_cell4 rfl _ _ (g + 1 + 1) (g + 1 + 1 + 1) (g + 1 + 1 + 1 + 1) (g + 1 + 1 + 1 + 1 + 1) rfl rfl rfl rfl
    (run_loadVar_row w7 _ _ _ _ (0, 0) _ g1 Tryz.underlying23 rfl (by kernel_rfl)) (run_loadVar_row w7 _ _ _ _ (0, 0) _ g2 Tryz.underlying23 rfl (by kernel_rfl))
    (run_loadVar_row w7 _ _ _ _ (0, 0) _ g3 Tryz.underlying30 rfl (by kernel_rfl)) (run_loadVar_row w7 _ _ _ _ (0, 0) _ g4 Tryz.underlying30 rfl (by kernel_rfl))) rfl ?_
  obtain rfl := H_hz1.out
  obtain rfl := H_hz2.out
  obtain rfl := H_hN1.out
  obtain rfl := H_hN2.out
  obtain rfl := H_hD1.out
  obtain rfl := H_hD2.out
  exact ⟨z1, e1, z2, e2, _, _, rfl, H_q1.out, ⟨H_q2.out, H_q3.out⟩, H_q4.out, ⟨H_q5.out, H_q6.out⟩, hsa, hsb, hff⟩

end Go.Proofs.YtjjolcjeiogdmaaGreatDoor

/- The contracts of math/big's integers: what an Int is in memory; Add, Sub. -/
namespace Go.Proofs.YtjjolcjeiogdmaaGreatDoor
open Go.RowKit

theorem frozen?_setCell' (w : World) (p q : Addr) (v : Value) : (w.setCell p v).frozen? q = w.frozen? q := by
  unfold World.frozen?
  simp only [World.setCell, Array.getElem?_modify]
  by_cases hb : p.block = q.block
  · rw [if_pos hb]
    cases hq : w.heap[q.block]? with
    | none => simp
    | some o => cases o <;> simp
  · rw [if_neg hb]

theorem setCell_cells {w : World} {b : Nat} (h : ∃ c T, w.heap[b]? = some (.cells c T (0, 0))) (o : Nat) (v : Value) : ∃ c T, (w.setCell ⟨b, o, none⟩ v).heap[b]? = some (.cells c T (0, 0)) := by
  obtain ⟨c, T, h⟩ := h
  exact ⟨_, T, by simp only [World.setCell, Array.getElem?_modify, if_true, h]; rfl⟩

/-- a struct of math/big's Int lies at block b from offset o on -/
structure StrAt (w : World) (b o : Nat) (neg : Bool) (v : Value) : Prop where
  c0 : w.cell? ⟨b, o, none⟩ = some (.bool neg)
  c1 : w.cell? ⟨b, o + 1, none⟩ = some v
  f0 : w.frozen? ⟨b, o, none⟩ = false
  f1 : w.frozen? ⟨b, o + 1, none⟩ = false
  ng : NG ≤ b
  hp : ∃ c T, w.heap[b]? = some (.cells c T (0, 0))

theorem StrAt.lt {w : World} {b o : Nat} {neg : Bool} {v : Value} (h : StrAt w b o neg v) : b < w.heap.size := World.block_lt_of_cell? w _ h.c0

theorem StrAt.keep {S : Nat → Prop} {w w' : World} {b o : Nat} {neg : Bool} {v : Value} (h : StrAt w b o neg v) (hk : Keep S w w') (hs : ¬ S b) : StrAt w' b o neg v :=
  ⟨(hk.cell h.lt hs).trans h.c0, (hk.cell (p := ⟨b, o + 1, none⟩) h.lt hs).trans h.c1, (hk.frozen h.lt hs).trans h.f0, (hk.frozen (p := ⟨b, o + 1, none⟩) h.lt hs).trans h.f1, h.ng, by rw [hk.block b h.lt hs]; exact h.hp⟩

theorem StrAt.drewN {w : World} {b o : Nat} {neg : Bool} {v : Value} (h : StrAt w b o neg v) (n : Nat) : StrAt (w.drewN n) b o neg v := ⟨h.c0, h.c1, h.f0, h.f1, h.ng, h.hp⟩
theorem StrAt.drew {w : World} {b o : Nat} {neg : Bool} {v : Value} (h : StrAt w b o neg v) : StrAt w.drew b o neg v := ⟨h.c0, h.c1, h.f0, h.f1, h.ng, h.hp⟩

theorem StrAt.eql_ne {P : Program} {w : World} {b o b' o' : Nat} {n n' : Bool} {v v' : Value} (h : StrAt w b o n v) (h' : StrAt w b' o' n' v') (hne : b ≠ b') {tp te : TypeId} (hp : P.underlying tp = some (.pointer te))
    (hsz : (P.info? te).map (·.size) = some 2) :
    (binOp .eql tp (.pointer (some ⟨b, o, none⟩)) (.pointer (some ⟨b', o', none⟩))).run P w = .ok (.bool false) w := by
  obtain ⟨c, T, h⟩ := h.hp
  obtain ⟨c', T', h'⟩ := h'.hp
  cases hq : P.info? te with
  | none => simp [hq] at hsz
  | some i => exact run_eql_ptr_other w hp hq (by simp [hq] at hsz; omega) (fun e => hne (congrArg Addr.block e)) h h'

theorem StrAt.set0 {w : World} {b o : Nat} {neg : Bool} {v : Value} (h : StrAt w b o neg v) (n : Bool) : StrAt (w.setCell ⟨b, o, none⟩ (.bool n)) b o n v :=
  ⟨cell?_setCell_eq rfl (by rw [h.c0]; rfl), (cell?_setCell_ne (by right; simp)).trans h.c1, (frozen?_setCell' _ _ _ _).trans h.f0, (frozen?_setCell' _ _ _ _).trans h.f1, h.ng, setCell_cells h.hp _ _⟩

theorem StrAt.set1 {w : World} {b o : Nat} {neg : Bool} {v : Value} (h : StrAt w b o neg v) (u : Value) : StrAt (w.setCell ⟨b, o + 1, none⟩ u) b o neg u :=
  ⟨(cell?_setCell_ne (by right; simp)).trans h.c0, cell?_setCell_eq rfl (by rw [h.c1]; rfl), (frozen?_setCell' _ _ _ _).trans h.f0, (frozen?_setCell' _ _ _ _).trans h.f1, h.ng, setCell_cells h.hp _ _⟩

/-- an Int of math/big at block b from offset o on: its sign, its words -/
structure IntIs (w : World) (b o : Nat) (neg : Bool) (v : Value) (l : List Nat) : Prop where
  str : StrAt w b o neg v
  nat : NatAt w v l
  norm : Norm l
  zero : l = [] → neg = false

/-- the number -/
def ival (neg : Bool) (l : List Nat) : Int := if neg then -(val l : Int) else (val l : Int)

theorem IntIs.ne {w : World} {b o : Nat} {neg : Bool} {v u : Value} {m : List Nat} (h : StrAt w b o neg v) (hn : NatAt w u m) {g : Nat} (hg : u.ownBlock = some g) : b ≠ g := by
  rintro rfl
  rcases hn.2 with ⟨rfl, _⟩ | ⟨g, off, cap, L, rfl, bk, _⟩
  · simp [Value.ownBlock] at hg
  · simp only [Value.ownBlock, Option.some.injEq] at hg
    subst hg
    by_cases ho : o < L.length
    · have := bk.cell ho
      rw [h.c0] at this; simp at this
    · obtain ⟨T, hb⟩ := bk
      have := h.c0
      simp [World.cell?, hb, ho] at this

theorem IntIs.keep {S : Nat → Prop} {w w' : World} {b o : Nat} {neg : Bool} {v : Value} {l : List Nat} (h : IntIs w b o neg v l) (hk : Keep S w w') (hs : ¬ S b) (hv : ∀ g, v.ownBlock = some g → ¬ S g) : IntIs w' b o neg v l :=
  ⟨h.str.keep hk hs, h.nat.keep hk hv, h.norm, h.zero⟩

theorem IntIs.fresh {w w' : World} {b o : Nat} {neg : Bool} {v : Value} {l : List Nat} (h : IntIs w b o neg v l) (hk : Fresh w w') : IntIs w' b o neg v l :=
  h.keep hk (fun h => h) (fun _ _ h => h)

theorem IntIs.drewN {w : World} {b o : Nat} {neg : Bool} {v : Value} {l : List Nat} (h : IntIs w b o neg v l) (n : Nat) : IntIs (w.drewN n) b o neg v l := ⟨h.str.drewN n, h.nat, h.norm, h.zero⟩

theorem setCell_natAt {w : World} {v : Value} {l : List Nat} (h : NatAt w v l) {b o : Nat} (hb : ∀ g, v.ownBlock = some g → b ≠ g) (u : Value) : NatAt (w.setCell ⟨b, o, none⟩ u) v l :=
  h.keep (Keep.setCell (S := fun k => k = b) (Keep.refl _ w) (fun _ => rfl) u) (fun g hg e => hb g hg e.symm)

/-- what a call that sets an Int returns: the pointer; the Int is n; nothing else has turned but what the Int held -/
def IntRet (w : World) (b o : Nat) (vz : Value) (n : Int) (e : Ending) (w' : World) : Prop :=
  e = .returned (.pointer (some ⟨b, o, none⟩)) ∧ ∃ neg v l, IntIs w' b o neg v l ∧ ival neg l = n ∧ Keep (fun k => k = b ∨ vz.ownBlock = some k) w w' ∧ (∀ k, v.ownBlock = some k → vz.ownBlock = some k ∨ w.heap.size ≤ k)

/-- the same of a call that returns nothing -/
def IntSet (w : World) (b o : Nat) (vz : Value) (n : Int) (e : Ending) (w' : World) : Prop :=
  e = .returned (.tuple #[]) ∧ ∃ neg v l, IntIs w' b o neg v l ∧ ival neg l = n ∧ Keep (fun k => k = b ∨ vz.ownBlock = some k) w w' ∧ (∀ k, v.ownBlock = some k → vz.ownBlock = some k ∨ w.heap.size ≤ k)

/-- the struct behind a call that returned words: both cells are written anew -/
theorem IntIs.made {w w1 : World} {b o : Nat} {neg0 : Bool} {vz rv : Value} {lz l : List Nat} (hz : StrAt w b o neg0 vz) (hzn : NatAt w vz lz) (hop : NatOp w vz rv l w1) (hnorm : Norm l) (neg : Bool) (hneg : l = [] → neg = false) (n : Int) (hn : ival neg l = n)
    {w2 : World} (hw2 : w2 = (w1.setCell ⟨b, o + 1, none⟩ rv).setCell ⟨b, o, none⟩ (.bool neg)) :
    ∃ neg v l, IntIs w2 b o neg v l ∧ ival neg l = n ∧ Keep (fun k => k = b ∨ vz.ownBlock = some k) w w2 ∧ (∀ k, v.ownBlock = some k → vz.ownBlock = some k ∨ w.heap.size ≤ k) := by
  subst hw2
  have hbz : ∀ g, vz.ownBlock = some g → b ≠ g := fun g hg => IntIs.ne hz hzn hg
  have hs1 : StrAt w1 b o neg0 vz := hz.keep hop.keep (fun h => hbz b h rfl)
  have hbr : ∀ g, rv.ownBlock = some g → b ≠ g := fun g hg => by
    rcases hop.own g hg with h | h
    · exact hbz g h
    · have := hz.lt; omega
  refine ⟨neg, rv, l, ⟨(hs1.set1 rv).set0 neg, setCell_natAt (setCell_natAt hop.nat hbr _) hbr _, hnorm, hneg⟩, hn, ?_, hop.own⟩
  have k1 : Keep (fun k => k = b ∨ vz.ownBlock = some k) w w1 := hop.keep.mono (fun k _ h => Or.inr h)
  exact (k1.setCell (p := ⟨b, o + 1, none⟩) (fun _ => Or.inl rfl) _).setCell (p := ⟨b, o, none⟩) (fun _ => Or.inl rfl) _

theorem Norm.len_lt {l : List Nat} (h : Norm l) {k : Nat} (hv : val l < wpow k) : l.length ≤ k := h.len_le hv

end Go.Proofs.YtjjolcjeiogdmaaGreatDoor
