/- arTwo: two decimals made fit, and what they say. -/
import Derived.Test.YtllencgncinphaaGreatDoorKE9
import Derived.Test.YtllencgncinphaaGreatDoorKE11
import Derived.Test.YtllencgncinphaaGreatDoorKE12
namespace Go.Proofs.YtllencgncinphaaGreatDoor
open Go.RowKit
open Go.Lib (hid)
set_option maxRecDepth 20000
set_option maxHeartbeats 4000000

theorem boxes6 (w : World) (c1 c2 c3 c4 c5 c6 : Array Value) (T1 T2 T3 T4 T5 T6 : TypeId) : ∀ g, g = w.heap.size → ∀ w1, (((((w.alloc (.cells c1 T1)).alloc (.cells c2 T2)).alloc (.cells c3 T3)).alloc (.cells c4 T4)).alloc (.cells c5 T5)).alloc (.cells c6 T6) = w1 →
 w1.heap[g]? = some (.cells c1 T1 (0, 0)) ∧ w1.heap[g + 1]? = some (.cells c2 T2 (0, 0)) ∧ w1.heap[g + 1 + 1]? = some (.cells c3 T3 (0, 0)) ∧ w1.heap[g + 1 + 1 + 1]? = some (.cells c4 T4 (0, 0)) ∧ w1.heap[g + 1 + 1 + 1 + 1]? = some (.cells c5 T5 (0, 0)) ∧ w1.heap[g + 1 + 1 + 1 + 1 + 1]? = some (.cells c6 T6 (0, 0)) ∧ Fresh w w1 := by
 rintro g rfl w1 rfl
 obtain ⟨h1, h2, h3, h4, _⟩ := boxes3 w c1 c2 c3 T1 T2 T3 _ rfl _ rfl
 obtain ⟨s1, s2, s3, s4, _⟩ := boxes3 (((w.alloc (.cells c1 T1)).alloc (.cells c2 T2)).alloc (.cells c3 T3)) c4 c5 c6 T4 T5 T6 _ rfl _ rfl
 have hs : (((w.alloc (.cells c1 T1)).alloc (.cells c2 T2)).alloc (.cells c3 T3)).heap.size = w.heap.size + 1 + 1 + 1 := by simp
 rw [hs] at s1 s2 s3
 exact ⟨rfr h1 s4, rfr h2 s4, rfr h3 s4, s1, s2, s3, ftr h4 s4⟩

theorem fcl {w : World} {h o g o' : Nat} {v : Value} {u : Option Value} (hne : h ≠ g) (k : w.cell? ⟨h, o, none⟩ = u) : (w.setCell ⟨g, o', none⟩ v).cell? ⟨h, o, none⟩ = u := by
 rw [cell?_setCell_ne (.inl hne)]; exact k

theorem results_cell4 {P : Program} {fn : Func} {p1 p2 p3 p4 : Tmp} {ty1 ty2 ty3 ty4 : TypeId} {v1 v2 v3 v4 : Value} (h : fn.results = #[.cell p1 ty1, .cell p2 ty2, .cell p3 ty3, .cell p4 ty4]) (tmps : Array Value) (w : World) (g1 g2 g3 g4 : Nat)
 (h1 : tmps.getD p1 undef = .pointer (some ⟨g1, 0, none⟩)) (h2 : tmps.getD p2 undef = .pointer (some ⟨g2, 0, none⟩)) (h3 : tmps.getD p3 undef = .pointer (some ⟨g3, 0, none⟩)) (h4 : tmps.getD p4 undef = .pointer (some ⟨g4, 0, none⟩))
 (e1 : (loadVar ty1 ⟨g1, 0, none⟩).run P w = .ok v1 w) (e2 : (loadVar ty2 ⟨g2, 0, none⟩).run P w = .ok v2 w) (e3 : (loadVar ty3 ⟨g3, 0, none⟩).run P w = .ok v3 w) (e4 : (loadVar ty4 ⟨g4, 0, none⟩).run P w = .ok v4 w) :
 (results fn tmps).run P w = .ok (.tuple #[v1, v2, v3, v4]) w := by
 have h1' : tmps[p1]?.getD undef = .pointer (some ⟨g1, 0, none⟩) := by simpa using h1
 have h2' : tmps[p2]?.getD undef = .pointer (some ⟨g2, 0, none⟩) := by simpa using h2
 have h3' : tmps[p3]?.getD undef = .pointer (some ⟨g3, 0, none⟩) := by simpa using h3
 have h4' : tmps[p4]?.getD undef = .pointer (some ⟨g4, 0, none⟩) := by simpa using h4
 simp [results, h, h1', h2', h3', h4', asAddr, e1, e2, e3, e4, Sem.run_bind, Result.andThen]

theorem SFr.set2 {w : World} {g : Nat} {x u : Value} {z : Int} {d : Nat} (h : SFr w x z d) (hc : w.cell? ⟨g, 0, none⟩ = some u) (hu : ∀ n, u ≠ wd .u32 n) (v1 v2 : Value) :
 SFr ((w.setCell ⟨g, 0, none⟩ v1).setCell ⟨g, 1, none⟩ v2) x z d := by
 obtain ⟨neg, v, l, dv, dl, h1, h2, h3, h4, h5, h6, h7⟩ := h
 have o1 := h2.off hc hu
 have o2 := h6.off hc hu
 exact ⟨neg, v, l, dv, dl, h1, (h2.setOff o1).setOff o1, h3, h4, h5, (h6.setOff o2).setOff o2, h7⟩

theorem four_rows {w : World} {k1 k2 k3 k4 : Nat} {a1 a2 b1 b2 c1 c2 c3 d1 d2 d3 : Value} {T1 T2 T3 T4 : TypeId} (n12 : k1 ≠ k2) (n13 : k1 ≠ k3) (n14 : k1 ≠ k4) (n23 : k2 ≠ k3) (n24 : k2 ≠ k4) (n34 : k3 ≠ k4)
 (r1 : w.heap[k1]? = some (.cells #[a1, a2] T1 (0, 0))) (r2 : w.heap[k2]? = some (.cells #[b1, b2] T2 (0, 0)))
 (r3 : w.heap[k3]? = some (.cells #[c1, c2, c3] T3 (0, 0))) (r4 : w.heap[k4]? = some (.cells #[d1, d2, d3] T4 (0, 0))) (x1 x2 y1 y2 u1 u2 u3 v1 v2 v3 : Value)
 (ha : ∀ n, a1 ≠ wd .u32 n) (hb : ∀ n, b1 ≠ wd .u32 n) (hc : ∀ n, c1 ≠ wd .u32 n) (hd : ∀ n, d1 ≠ wd .u32 n) :
 ∀ W, ((((((((((w.setCell ⟨k1, 0, none⟩ x1).setCell ⟨k1, 1, none⟩ x2).setCell ⟨k2, 0, none⟩ y1).setCell ⟨k2, 1, none⟩ y2).setCell ⟨k3, 0, none⟩ u1).setCell ⟨k3, 1, none⟩ u2).setCell ⟨k3, 2, none⟩ u3).setCell ⟨k4, 0, none⟩ v1).setCell ⟨k4, 1, none⟩ v2).setCell ⟨k4, 2, none⟩ v3) = W →
  W.heap[k1]? = some (.cells #[x1, x2] T1 (0, 0)) ∧ W.heap[k2]? = some (.cells #[y1, y2] T2 (0, 0)) ∧ W.heap[k3]? = some (.cells #[u1, u2, u3] T3 (0, 0)) ∧ W.heap[k4]? = some (.cells #[v1, v2, v3] T4 (0, 0))
   ∧ (∀ x z d, SFr w x z d → SFr W x z d) ∧ ∀ w0 : World, w0.heap.size ≤ k1 → w0.heap.size ≤ k2 → w0.heap.size ≤ k3 → w0.heap.size ≤ k4 → Fresh w0 w → Fresh w0 W := by
 rintro W rfl
 have p1 := rwc r1 0
 have p2 := rwc r2 0
 have p3 := rwc r3 0
 have p4 := rwc r4 0
 simp at p1 p2 p3 p4
 refine ⟨row3_ne (Ne.symm n14) (row3_ne (Ne.symm n13) (rsn (Ne.symm n12) (rsn (Ne.symm n12) (rst (rst r1))))),
  row3_ne (Ne.symm n24) (row3_ne (Ne.symm n23) (rst (rst (rsn n12 (rsn n12 r2))))),
  row3_ne (Ne.symm n34) (row3 (rsn n23 (rsn n23 (rsn n13 (rsn n13 r3))))),
  row3 (row3_ne n34 (rsn n24 (rsn n24 (rsn n14 (rsn n14 r4))))), fun x z d h => ?_, fun w0 e1 e2 e3 e4 h => ?_⟩
 · have h1 := SFr.set2 h p1 ha x1 x2
   have h2 := SFr.set2 h1 (fcl (Ne.symm n12) (fcl (Ne.symm n12) p2)) hb y1 y2
   have h3 := SFr.set3 h2 (fcl (Ne.symm n23) (fcl (Ne.symm n23) (fcl (Ne.symm n13) (fcl (Ne.symm n13) p3)))) hc u1 u2 u3
   exact SFr.set3 h3 (fcl (Ne.symm n34) (fcl (Ne.symm n34) (fcl (Ne.symm n34) (fcl (Ne.symm n24) (fcl (Ne.symm n24) (fcl (Ne.symm n14) (fcl (Ne.symm n14) p4))))))) hd v1 v2 v3
 · have s2 : ∀ {w1 : World} {j : Nat}, Fresh w0 w1 → w0.heap.size ≤ j → ∀ v1 v2, Fresh w0 ((w1.setCell ⟨j, 0, none⟩ v1).setCell ⟨j, 1, none⟩ v2) := fun h hj v1 v2 =>
    (h.setCell (p := ⟨_, 0, none⟩) (fun hk => by have := Nat.lt_of_lt_of_le hk hj; exact Nat.lt_irrefl _ this) v1).setCell (p := ⟨_, 1, none⟩) (fun hk => by have := Nat.lt_of_lt_of_le hk hj; exact Nat.lt_irrefl _ this) v2
   exact Fresh.set3 (Fresh.set3 (s2 (s2 h e1 x1 x2) e2 y1 y2) e3) e4

theorem wl_value {P : Program} {ops : Array Oper} {Q : Exit → Act → World → Prop} {rest : List Oper} {o : Oper} {a : Act} {w w' : World} {v : Value} (hg : o.guard = none) (hr : (execOp a.eval o).run P w = .ok (.value v) w') (h : wpList P ops Q rest (a.put o.dst v) w') : wpList P ops Q (o :: rest) a w := by
 unfold wpList
 have hw : Region.wanted o (yielded ops a.tmps) = true := by unfold Region.wanted; rw [hg]
 rw [if_pos hw]
 refine .inl ?_
 unfold Oper.wp
 rw [hr]
 exact h

theorem wl_skip {P : Program} {ops : Array Oper} {Q : Exit → Act → World → Prop} {rest : List Oper} {o : Oper} {a : Act} {w w' : World} (hg : o.guard = none) (hr : (execOp a.eval o).run P w = .ok .skip w') (h : wpList P ops Q rest (a.put o.dst undef) w') : wpList P ops Q (o :: rest) a w := by
 unfold wpList
 have hw : Region.wanted o (yielded ops a.tmps) = true := by unfold Region.wanted; rw [hg]
 rw [if_pos hw]
 refine .inl ?_
 unfold Oper.wp
 rw [hr]
 exact h

theorem DecFit_60 (S : List Nat) (ex : Int) (w : World) (hS : ∀ c ∈ S, c < 256) (hlen : S.length ≤ 2147483647) (hex : -9223372036854775808 ≤ ex ∧ ex ≤ 9223372036854775807) :
 Calls Tryz.prog 39 #[.agg #[.string (bstr S), .int .i64 ex], .int .i64 60, .int .i64 60] w (fun e w' => ∃ z x : Int, e = .returned (.agg #[.string (bstr (wdig z)), .int .i64 x]) ∧ z.natAbs < 10 ^ 60 ∧ -60 ≤ x ∧ x ≤ 60 ∧ Fresh w w') :=
 DecFit_any S ex 60 60 w hS hlen (by omega) (by omega) hex

theorem arTwo_any (S1 S2 : List Nat) (x1 x2 : Int) (w : World) (hS1 : ∀ c ∈ S1, c < 256) (hS2 : ∀ c ∈ S2, c < 256) (hl1 : S1.length ≤ 2147483647) (hl2 : S2.length ≤ 2147483647) (hx1 : -9223372036854775808 ≤ x1 ∧ x1 ≤ 9223372036854775807) (hx2 : -9223372036854775808 ≤ x2 ∧ x2 ≤ 9223372036854775807) :
 Calls Tryz.prog 19 #[.agg #[.string (bstr S1), .int .i64 x1], .agg #[.string (bstr S2), .int .i64 x2]] w (fun r w' => ∃ (z1 e1 z2 e2 : Int) (f1 f2 : Value), r = .returned (.tuple #[.agg #[.string (bstr (wdig z1)), .int .i64 e1], .agg #[.string (bstr (wdig z2)), .int .i64 e2], f1, f2])
  ∧ z1.natAbs < 10 ^ 60 ∧ (-60 ≤ e1 ∧ e1 ≤ 60) ∧ z2.natAbs < 10 ^ 60 ∧ (-60 ≤ e2 ∧ e2 ≤ 60) ∧ SFr w' f1 (dnum z1 e1) (dden e1) ∧ SFr w' f2 (dnum z2 e2) (dden e2) ∧ Fresh w w') := by
 have hf1 := fun W => DecFit_60 S1 x1 W hS1 hl1 hx1
 have hf2 := fun W => DecFit_60 S2 x2 W hS2 hl2 hx2
 generalize bstr S1 = s1 at *
 generalize bstr S2 = s2 at *
 clear hS1 hS2 hl1 hl2 hx1 hx2
 obtain ⟨g, hg⟩ : ∃ g, g = w.heap.size := ⟨_, rfl⟩
 have bx := boxes6 w #[.string s1, .int .i64 x1] #[.string s2, .int .i64 x2] #[.string ⟨#[]⟩, .int .i64 0] #[.string ⟨#[]⟩, .int .i64 0] #[.bool false, .slice none 0 0, .slice none 0 0] #[.bool false, .slice none 0 0, .slice none 0 0] 23 23 23 23 30 30 g hg
 have H_bx := hid bx; have H_hf1 := hid hf1; have H_hf2 := hid hf2; clear bx hf1 hf2
 go_enter Tryz.func19, Tryz.ntmps19
 go_wp2_with (fail)
 generalize hw1 : (((((w.alloc _).alloc _).alloc _).alloc _).alloc _).alloc _ = w1
 rw [← hg]
 obtain ⟨b1, b2, b3, b4, b5, b6, hf⟩ := H_bx.out w1 hw1
 have k0 := rwc b1 0
 have k1 := rwc b1 1
 have m0 := rwc b2 0
 have m1 := rwc b2 1
 simp at k0 k1 m0 m1
 have H_b1 := hid b1; have H_b2 := hid b2; have H_b3 := hid b3; have H_b4 := hid b4; have H_b5 := hid b5; have H_b6 := hid b6; have H_hf := hid hf; have H_hw1 := hid hw1; have H_hg := hid hg; clear b1 b2 b3 b4 b5 b6 hf hw1 hg
 refine rgE (S := (fun (w' : World) => w'.cell? ⟨g, 0, none⟩ = some (.string s1) ∧ w'.cell? ⟨g, 1, none⟩ = some (.int .i64 x1) ∧ w'.cell? ⟨g + 1, 0, none⟩ = some (.string s2) ∧ w'.cell? ⟨g + 1, 1, none⟩ = some (.int .i64 x2))) 4 (by kernel_rfl) (by exact ⟨k0, k1, m0, m1⟩) (fun hHeld => ?_)
 refine tkL (i := 0) (c := 1) (v := ?v0_1) rfl (by kernel_rfl) (fun _ _ _ h => h) ⟨by rfl, ?y0_1⟩ (by assumption) ?r0_1
 case y0_1 => (intro w hSw; go_split_ands; go_simp; try with_reducible rfl)
 try simp only [Act.put, yA, yB, yD, yE, yF]
 refine tkL (i := 2) (c := 3) (v := ?v2_1) rfl (by kernel_rfl) (fun _ _ _ h => h) ⟨by rfl, ?y2_1⟩ (by assumption) ?r2_1
 case y2_1 => (intro w hSw; go_split_ands; go_simp; try with_reducible rfl)
 try simp only [Act.put, yA, yB, yC, yD, yE, yF]
 refine tkO (i := 1) rfl (by kernel_rfl) (fun K hK => ?_)
 go_simp
 refine (H_hf1.out _).mono ?_; rintro r w2 ⟨z1, e1, rfl, q1, q2, q3, y⟩; have y2 : Fresh w1 w2 := y.of_drew; have j0 := cfr k0 y2; have j1 := cfr k1 y2; have n0 := cfr m0 y2; have n1 := cfr m1 y2; have H_f2 := hid y2; have H_q1 := hid q1; have H_q2 := hid q2; have H_q3 := hid q3; clear y y2 q1 q2 q3
 go_wp2_with (fail)
 have hHeld1 : ((fun (w' : World) => w'.cell? ⟨g, 0, none⟩ = some (.string s1) ∧ w'.cell? ⟨g, 1, none⟩ = some (.int .i64 x1) ∧ w'.cell? ⟨g + 1, 0, none⟩ = some (.string s2) ∧ w'.cell? ⟨g + 1, 1, none⟩ = some (.int .i64 x2))) _ := ⟨j0, j1, n0, n1⟩
 refine hK.out _ _ (fun _ => hHeld1) ?_
 clear hK K
 try simp only [Act.put, yA, yB, yC, yD, yE, yF]
 refine tkO (i := 3) rfl (by kernel_rfl) (fun K hK => ?_)
 go_simp
 refine (H_hf2.out _).mono ?_; rintro r w3 ⟨z2, e2, rfl, q4, q5, q6, y3⟩; have f3 := ftr H_f2.out y3; have d1 := rfr H_b1.out f3; have d2 := rfr H_b2.out f3; have u0 := rwc d1 0; have u1 := rwc d1 1; have v0 := rwc d2 0; have v1 := rwc d2 1; simp at u0 u1 v0 v1; have a0 : w3.frozen? ⟨g, 0, none⟩ = false := frozen_of_row _ _ _ _ _ d1; have a1 : w3.frozen? ⟨g, 1, none⟩ = false := frozen_of_row _ _ _ _ _ d1; have a2 : w3.frozen? ⟨g + 1, 0, none⟩ = false := frozen_of_row _ _ _ _ _ d2; have a3 : w3.frozen? ⟨g + 1, 1, none⟩ = false := frozen_of_row _ _ _ _ _ d2; have H_d1 := hid d1; have H_d2 := hid d2; have H_f3 := hid f3; have H_q4 := hid q4; have H_q5 := hid q5; have H_q6 := hid q6; clear y3 d1 d2 f3 q4 q5 q6
 go_wp2_with (fail)
 have hHeld2 : ((fun (w' : World) => w'.cell? ⟨g, 0, none⟩ = some (.string s1) ∧ w'.cell? ⟨g, 1, none⟩ = some (.int .i64 x1) ∧ w'.cell? ⟨g + 1, 0, none⟩ = some (.string s2) ∧ w'.cell? ⟨g + 1, 1, none⟩ = some (.int .i64 x2))) _ := ⟨u0, u1, v0, v1⟩
 refine hK.out _ _ (fun _ => hHeld2) ?_
 clear hK K
 try simp only [Act.put, yA, yB, yC, yD, yE, yF]
 refine tkO (i := 4) rfl (by kernel_rfl) (fun K hK => ?_)
 go_simp
 refine hK.out _ _ (fun h => Bool.noConfusion (show true = false from h)) ?_
 clear hK K
 try simp only [Act.put, yA, yB, yC, yD, yE, yF]
 refine tkO (i := 5) rfl (by kernel_rfl) (fun K hK => ?_)
 go_simp
 refine hK.out _ _ (fun h => Bool.noConfusion (show true = false from h)) ?_
 clear hK K
 try simp only [Act.put, yA, yB, yC, yD, yE, yF]
 refine tkD (by kernel_rfl) ?_ _
 have r1 := rst (i := 1) (v := .int .i64 e1) (rst (i := 0) (v := .string (bstr (wdig z1))) H_d1.out)
 have r2 := rst (i := 1) (v := .int .i64 e2) (rst (i := 0) (v := .string (bstr (wdig z2))) (rsn (i := 1) (v := .int .i64 e1) (by omega : g ≠ g + 1) (rsn (i := 0) (v := .string (bstr (wdig z1))) (by omega : g ≠ g + 1) H_d2.out)))
 have r1 := rsn (i := 1) (v := .int .i64 e2) (by omega : g + 1 ≠ g) (rsn (i := 0) (v := .string (bstr (wdig z2))) (by omega : g + 1 ≠ g) r1)
 have hgw := H_hg.out
 have f4 := ((((ftr H_hf.out H_f3.out).setCell (p := ⟨g, 0, none⟩) (fun h => by change g < w.heap.size at h; omega) (.string (bstr (wdig z1)))).setCell (p := ⟨g, 1, none⟩) (fun h => by change g < w.heap.size at h; omega) (.int .i64 e1)).setCell (p := ⟨g + 1, 0, none⟩) (fun h => by change g + 1 < w.heap.size at h; omega) (.string (bstr (wdig z2)))).setCell (p := ⟨g + 1, 1, none⟩) (fun h => by change g + 1 < w.heap.size at h; omega) (.int .i64 e2)
 have ne : ∀ k c, g + 1 < k → w3.heap[k]? = c → ((((w3.setCell ⟨g, 0, none⟩ (.string (bstr (wdig z1)))).setCell ⟨g, 1, none⟩ (.int .i64 e1)).setCell ⟨g + 1, 0, none⟩ (.string (bstr (wdig z2)))).setCell ⟨g + 1, 1, none⟩ (.int .i64 e2)).heap[k]? = c := fun k c hk h =>
  rsn (by omega) (rsn (by omega) (rsn (by omega) (rsn (by omega) h)))
 have c3 := ne _ _ (by omega) (rfr H_b3.out H_f3.out)
 have c4 := ne _ _ (by omega) (rfr H_b4.out H_f3.out)
 have c5 := ne _ _ (by omega) (rfr H_b5.out H_f3.out)
 have c6 := ne _ _ (by omega) (rfr H_b6.out H_f3.out)
 clear ne
 generalize hw4 : (((w3.setCell ⟨g, 0, none⟩ (.string (bstr (wdig z1)))).setCell ⟨g, 1, none⟩ (.int .i64 e1)).setCell ⟨g + 1, 0, none⟩ (.string (bstr (wdig z2)))).setCell ⟨g + 1, 1, none⟩ (.int .i64 e2) = w4 at *
 simp at r1 r2
 have fr1 := fun W => FracOf_any z1 e1 W (Nat.le_trans (wdig_len_le H_q1.out (by omega)) (by omega)) (by have := H_q2.out; have := H_q3.out; omega)
 have fr2 := fun W => FracOf_any z2 e2 W (Nat.le_trans (wdig_len_le H_q4.out (by omega)) (by omega)) (by have := H_q5.out; have := H_q6.out; omega)
 have i0 := rwc r1 0
 have i1 := rwc r1 1
 have l0 := rwc r2 0
 have l1 := rwc r2 1
 simp at i0 i1 l0 l1
 generalize hz1 : bstr (wdig z1) = t1 at *
 generalize hz2 : bstr (wdig z2) = t2 at *
 generalize hN1 : dnum z1 e1 = N1 at *
 generalize hN2 : dnum z2 e2 = N2 at *
 generalize hD1 : dden e1 = D1 at *
 generalize hD2 : dden e2 = D2 at *
 clear k0 k1 m0 m1 j0 j1 n0 n1 u0 u1 v0 v1 a0 a1 a2 a3
 clear H_hf1 H_hf2 H_f2 H_d1 H_d2 H_b1 H_b2 H_b3 H_b4 H_b5 H_b6 H_f3 H_hf
 have H_r1 := hid r1; have H_r2 := hid r2; have H_f4 := hid f4; have H_c3 := hid c3; have H_c4 := hid c4; have H_c5 := hid c5; have H_c6 := hid c6; have H_hw4 := hid hw4; have H_fr1 := hid fr1; have H_fr2 := hid fr2; have H_hz1 := hid hz1; have H_hz2 := hid hz2; have H_hN1 := hid hN1; have H_hN2 := hid hN2; have H_hD1 := hid hD1; have H_hD2 := hid hD2; have H_hgw := hid hgw; clear r1 r2 f4 c3 c4 c5 c6 hw4 fr1 fr2 hz1 hz2 hN1 hN2 hD1 hD2 hgw
 go_wp2_with (fail)
 refine rgE (S := (fun (w' : World) => w'.cell? ⟨g, 0, none⟩ = some (.string t1) ∧ w'.cell? ⟨g, 1, none⟩ = some (.int .i64 e1) ∧ w'.cell? ⟨g + 1, 0, none⟩ = some (.string t2) ∧ w'.cell? ⟨g + 1, 1, none⟩ = some (.int .i64 e2))) 9 (by kernel_rfl) (by exact ⟨i0, i1, l0, l1⟩) (fun hHeld => ?_)
 refine tkL (i := 0) (c := 6) (v := ?v0_2) rfl (by kernel_rfl) (fun _ _ _ h => h) ⟨by rfl, ?y0_2⟩ (by assumption) ?r0_2
 case y0_2 => (intro w hSw; go_split_ands; go_simp; try with_reducible rfl)
 try simp only [Act.put, yA, yB, yD, yE, yF]
 refine tkL (i := 1) (c := 7) (v := ?v1_2) rfl (by kernel_rfl) (fun _ _ _ h => h) ⟨by rfl, ?y1_2⟩ (by assumption) ?r1_2
 case y1_2 => (intro w hSw; go_split_ands; go_simp; try with_reducible rfl)
 try simp only [Act.put, yA, yB, yC, yD, yE, yF]
 refine tkL (i := 2) (c := 3) (v := ?v2_2) rfl (by kernel_rfl) (fun _ _ _ h => h) ⟨by rfl, ?y2_2⟩ (by assumption) ?r2_2
 case y2_2 => (intro w hSw; go_split_ands; go_simp; try with_reducible rfl)
 try simp only [Act.put, yA, yB, yC, yD, yE, yF]
 refine tkL (i := 4) (c := 5) (v := ?v4_2) rfl (by kernel_rfl) (fun _ _ _ h => h) ⟨by rfl, ?y4_2⟩ (by assumption) ?r4_2
 case y4_2 => (intro w hSw; go_split_ands; go_simp; try with_reducible rfl)
 try simp only [Act.put, yA, yB, yC, yD, yE, yF]
 refine tkO (i := 3) rfl (by kernel_rfl) (fun K hK => ?_)
 go_simp
 refine (H_fr1.out _).mono ?_; rintro r w5 ⟨f1, rfl, x5, y⟩; have y5 : Fresh w4 w5 := y.of_drew; have j0 := cfr i0 y5; have j1 := cfr i1 y5; have m0 := cfr l0 y5; have m1 := cfr l1 y5; have H_f5 := hid y5; have H_x5 := hid x5; clear y y5 x5
 go_wp2_with (fail)
 have hHeld1 : ((fun (w' : World) => w'.cell? ⟨g, 0, none⟩ = some (.string t1) ∧ w'.cell? ⟨g, 1, none⟩ = some (.int .i64 e1) ∧ w'.cell? ⟨g + 1, 0, none⟩ = some (.string t2) ∧ w'.cell? ⟨g + 1, 1, none⟩ = some (.int .i64 e2))) _ := ⟨j0, j1, m0, m1⟩
 refine hK.out _ _ (fun _ => hHeld1) ?_
 clear hK K
 try simp only [Act.put, yA, yB, yC, yD, yE, yF]
 refine tkO (i := 5) rfl (by kernel_rfl) (fun K hK => ?_)
 go_simp
 refine (H_fr2.out _).mono ?_; rintro r w6 ⟨f2, rfl, x6, y6⟩; have x5 := H_x5.out.fresh y6; have f46 := ftr H_f5.out y6; have n0 := cfr j0 y6; have n1 := cfr j1 y6; have o0 := cfr m0 y6; have o1 := cfr m1 y6; obtain ⟨na, va, la, da, dla, rfl, xa1, xa2, xa3, xa4, xa5, xa6⟩ := x5; obtain ⟨nb, vb, lb, db, dlb, rfl, xb1, xb2, xb3, xb4, xb5, xb6⟩ := x6; obtain ⟨aa, ca, rfl⟩ := xa1.form; obtain ⟨ab, cb, rfl⟩ := xb1.form; obtain ⟨ac, cc, rfl⟩ := xa5.form; obtain ⟨ad, cd, rfl⟩ := xb5.form; have hsa := (⟨na, _, la, _, dla, rfl, xa1, xa2, xa3, xa4, xa5, xa6⟩ : SFr w6 _ N1 D1); have hsb := (⟨nb, _, lb, _, dlb, rfl, xb1, xb2, xb3, xb4, xb5, xb6⟩ : SFr w6 _ N2 D2); clear xa1 xa2 xa3 xa4 xa5 xa6 xb1 xb2 xb3 xb4 xb5 xb6; generalize la.length = ln1 at *; generalize lb.length = ln2 at *; generalize dla.length = ln3 at *; generalize dlb.length = ln4 at *; clear la lb dla dlb i0 i1 l0 l1; have d3 := rfr H_c3.out f46; have d4 := rfr H_c4.out f46; have d5 := rfr H_c5.out f46; have d6 := rfr H_c6.out f46; have p0 := rwc d3 0; have p1 := rwc d3 1; have p2 := rwc d4 0; have p3 := rwc d4 1; have p4 := rwc d5 0; have p5 := rwc d5 1; have p6 := rwc d5 2; have p7 := rwc d6 0; have p8 := rwc d6 1; have p9 := rwc d6 2; simp at p0 p1 p2 p3 p4 p5 p6 p7 p8 p9; have s0 : w6.frozen? ⟨g + 1 + 1, 0, none⟩ = false := frozen_of_row _ _ _ _ _ d3; have s1 : w6.frozen? ⟨g + 1 + 1, 1, none⟩ = false := frozen_of_row _ _ _ _ _ d3; have s2 : w6.frozen? ⟨g + 1 + 1 + 1, 0, none⟩ = false := frozen_of_row _ _ _ _ _ d4; have s3 : w6.frozen? ⟨g + 1 + 1 + 1, 1, none⟩ = false := frozen_of_row _ _ _ _ _ d4; have s4 : w6.frozen? ⟨g + 1 + 1 + 1 + 1, 0, none⟩ = false := frozen_of_row _ _ _ _ _ d5; have s5 : w6.frozen? ⟨g + 1 + 1 + 1 + 1, 1, none⟩ = false := frozen_of_row _ _ _ _ _ d5; have s6 : w6.frozen? ⟨g + 1 + 1 + 1 + 1, 2, none⟩ = false := frozen_of_row _ _ _ _ _ d5; have s7 : w6.frozen? ⟨g + 1 + 1 + 1 + 1 + 1, 0, none⟩ = false := frozen_of_row _ _ _ _ _ d6; have s8 : w6.frozen? ⟨g + 1 + 1 + 1 + 1 + 1, 1, none⟩ = false := frozen_of_row _ _ _ _ _ d6; have s9 : w6.frozen? ⟨g + 1 + 1 + 1 + 1 + 1, 2, none⟩ = false := frozen_of_row _ _ _ _ _ d6; have H_d3 := hid d3; have H_d4 := hid d4; have H_d5 := hid d5; have H_d6 := hid d6; have H_f6 := hid f46; have H_sa := hid hsa; have H_sb := hid hsb;clear y6 f46 d3 d4 d5 d6 hsa hsb j0 j1 m0 m1
 go_wp2_with (fail)
 have hHeld2 : ((fun (w' : World) => w'.cell? ⟨g, 0, none⟩ = some (.string t1) ∧ w'.cell? ⟨g, 1, none⟩ = some (.int .i64 e1) ∧ w'.cell? ⟨g + 1, 0, none⟩ = some (.string t2) ∧ w'.cell? ⟨g + 1, 1, none⟩ = some (.int .i64 e2))) _ := ⟨n0, n1, o0, o1⟩
 refine hK.out _ _ (fun _ => hHeld2) ?_
 clear hK K
 try simp only [Act.put, yA, yB, yC, yD, yE, yF]
 refine tkO (i := 6) rfl (by kernel_rfl) (fun K hK => ?_)
 go_simp
 skip
 refine hK.out _ _ (fun _ => ?hs6_2) ?_
 case hs6_2 => exact ⟨(fcl (by omega) (fcl (by omega) n0)), (fcl (by omega) (fcl (by omega) n1)), (fcl (by omega) (fcl (by omega) o0)), (fcl (by omega) (fcl (by omega) o1))⟩
 clear hK K
 try simp only [Act.put, yA, yB, yC, yD, yE, yF]
 refine tkO (i := 7) rfl (by kernel_rfl) (fun K hK => ?_)
 go_simp
 skip
 refine hK.out _ _ (fun _ => ?hs7_2) ?_
 case hs7_2 => exact ⟨(fcl (by omega) (fcl (by omega) (fcl (by omega) (fcl (by omega) n0)))), (fcl (by omega) (fcl (by omega) (fcl (by omega) (fcl (by omega) n1)))), (fcl (by omega) (fcl (by omega) (fcl (by omega) (fcl (by omega) o0)))), (fcl (by omega) (fcl (by omega) (fcl (by omega) (fcl (by omega) o1))))⟩
 clear hK K
 try simp only [Act.put, yA, yB, yC, yD, yE, yF]
 refine tkO (i := 8) rfl (by kernel_rfl) (fun K hK => ?_)
 go_simp
 skip
 refine hK.out _ _ (fun _ => ?hs8_2) ?_
 case hs8_2 => exact ⟨(fcl (by omega) (fcl (by omega) (fcl (by omega) (fcl (by omega) (fcl (by omega) (fcl (by omega) (fcl (by omega) n0))))))), (fcl (by omega) (fcl (by omega) (fcl (by omega) (fcl (by omega) (fcl (by omega) (fcl (by omega) (fcl (by omega) n1))))))), (fcl (by omega) (fcl (by omega) (fcl (by omega) (fcl (by omega) (fcl (by omega) (fcl (by omega) (fcl (by omega) o0))))))), (fcl (by omega) (fcl (by omega) (fcl (by omega) (fcl (by omega) (fcl (by omega) (fcl (by omega) (fcl (by omega) o1)))))))⟩
 clear hK K
 try simp only [Act.put, yA, yB, yC, yD, yE, yF]
 refine tkO (i := 9) rfl (by kernel_rfl) (fun K hK => ?_)
 go_simp
 refine hK.out _ _ (fun h => Bool.noConfusion (show true = false from h)) ?_
 clear hK K
 try simp only [Act.put, yA, yB, yC, yD, yE, yF]
 refine tkD (by kernel_rfl) ?_ _
 go_wp2_with (fail)
 generalize hw7 : ((((((((((w6.setCell _ _).setCell _ _).setCell _ _).setCell _ _).setCell _ _).setCell _ _).setCell _ _).setCell _ _).setCell _ _).setCell _ _) = w7
 obtain ⟨g1, g2, g3, g4, gs, gf⟩ := four_rows (by omega) (by omega) (by omega) (by omega) (by omega) (by omega) H_d3.out H_d4.out H_d5.out H_d6.out _ _ _ _ _ _ _ _ _ _ (by intro n; simp [wd]) (by intro n; simp [wd]) (by intro n; simp [wd]) (by intro n; simp [wd]) w7 hw7
 have hsa := gs _ _ _ H_sa.out
 have hsb := gs _ _ _ H_sb.out
 have hgw := H_hgw.out
 have hff := gf w (by omega) (by omega) (by omega) (by omega) (ftr H_f4.out H_f6.out)
 refine bodyPost_ret (results_cell4 rfl _ _ (g + 1 + 1) (g + 1 + 1 + 1) (g + 1 + 1 + 1 + 1) (g + 1 + 1 + 1 + 1 + 1) rfl rfl rfl rfl
  (run_loadVar_row w7 _ _ _ _ (0, 0) _ g1 Tryz.underlying23 rfl (by kernel_rfl)) (run_loadVar_row w7 _ _ _ _ (0, 0) _ g2 Tryz.underlying23 rfl (by kernel_rfl))
  (run_loadVar_row w7 _ _ _ _ (0, 0) _ g3 Tryz.underlying30 rfl (by kernel_rfl)) (run_loadVar_row w7 _ _ _ _ (0, 0) _ g4 Tryz.underlying30 rfl (by kernel_rfl))) rfl ?_
 obtain rfl := H_hz1.out
 obtain rfl := H_hz2.out
 obtain rfl := H_hN1.out
 obtain rfl := H_hN2.out
 obtain rfl := H_hD1.out
 obtain rfl := H_hD2.out
 exact ⟨z1, e1, z2, e2, _, _, rfl, H_q1.out, ⟨H_q2.out, H_q3.out⟩, H_q4.out, ⟨H_q5.out, H_q6.out⟩, hsa, hsb, hff⟩

theorem results_cell2 {P : Program} {fn : Func} {p1 p2 : Tmp} {ty1 ty2 : TypeId} {v1 v2 : Value} (h : fn.results = #[.cell p1 ty1, .cell p2 ty2]) (tmps : Array Value) (w : World) (g1 g2 : Nat)
 (h1 : tmps.getD p1 undef = .pointer (some ⟨g1, 0, none⟩)) (h2 : tmps.getD p2 undef = .pointer (some ⟨g2, 0, none⟩))
 (e1 : (loadVar ty1 ⟨g1, 0, none⟩).run P w = .ok v1 w) (e2 : (loadVar ty2 ⟨g2, 0, none⟩).run P w = .ok v2 w) :
 (results fn tmps).run P w = .ok (.tuple #[v1, v2]) w := by
 have h1' : tmps[p1]?.getD undef = .pointer (some ⟨g1, 0, none⟩) := by simpa using h1
 have h2' : tmps[p2]?.getD undef = .pointer (some ⟨g2, 0, none⟩) := by simpa using h2
 simp [results, h, h1', h2', asAddr, e1, e2, Sem.run_bind, Result.andThen]

theorem IsZero_any (x : Value) (z : Int) (d : Nat) (w : World) (hx : SFr w x z d) :
 Calls Tryz.prog 21 #[x] w (fun e w' => e = .returned (.bool (decide (z = 0))) ∧ Fresh w w') := by
 have hsg : ∀ W y, SWh W y z → Calls Tryz.prog 59 #[y] W (IRet W (cmpZ z 0)) := by
  intro W y hy
  have hc := fun W' (hW : Fresh W W') => WholeCmp_any y (swh false (.slice none 0 0)) z 0 W' (hy.fresh hW) ⟨false, _, [], rfl, SNat.nil _, Norm.nil, fun _ => rfl, rfl⟩
  generalize cmpZ z 0 = c at *
  obtain ⟨n, v, l, rfl, h1, -⟩ := hy
  obtain ⟨a, cc, rfl⟩ := h1.form
  generalize l.length = ln at *
  obtain ⟨g, hg⟩ : ∃ g, g = W.heap.size := ⟨_, rfl⟩
  clear h1
  have H_hc := hid hc; clear hc
  go_enter Tryz.func59, Tryz.ntmps59
  go_wp2_with (fail)
  have f1 := (Keep.refl (fun _ => False) W).alloc (.cells #[.bool n, .slice a ln cc] 28 (0, 0))
  refine (H_hc.out _ f1).mono ?_
  rintro e w2 ⟨rfl, f2⟩
  have f2 := ftr f1 f2
  clear f1
  have H_f2 := hid f2; clear f2
  go_wp2_with (fail)
  go_ret
  exact ⟨rfl, H_f2.out⟩
 have hcz : (cmpZ z 0 == 0) = decide (z = 0) := by
  unfold cmpZ
  by_cases h : z = 0
  · subst h; simp
  · rw [decide_eq_false h]
    split
    · rfl
    · split
      · rfl
      · omega
 have hs2 := fun W (hW : Fresh w W) => hsg W
 obtain ⟨n, v, l, dv, dl, rfl, h1, h2, h3, h4, h5, h6, h7⟩ := hx
 obtain ⟨a, cc, rfl⟩ := h1.form
 obtain ⟨a2, cc2, rfl⟩ := h5.form
 have hy := fun W (hW : Fresh w W) => hs2 W hW (swh n (.slice a l.length cc)) ⟨n, _, l, rfl, h1.fresh hW, h2, h3, h4⟩
 clear hs2 hsg h1 h2 h3 h4 h5 h6 h7
 generalize cmpZ z 0 = c at *
 generalize decide (z = 0) = q at *
 generalize l.length = ln at *
 generalize dl.length = ln2 at *
 have H_hy := hid hy; clear hy
 go_enter Tryz.func21, Tryz.ntmps21
 go_wp2_with (fail)
 have f1 := (Keep.refl (fun _ => False) w).alloc (.cells #[.bool n, .slice a ln cc, .slice a2 ln2 cc2] 30 (0, 0))
 refine (H_hy.out _ f1).mono ?_
 rintro e w2 ⟨rfl, f2⟩
 have f2 := ftr f1 f2
 clear f1
 have H_f2 := hid f2; clear f2
 go_wp2_with (fail)
 go_ret
 exact ⟨rfl, H_f2.out⟩

theorem short_step {b Q r S x : Nat} (h : S = b * Q + r) :
 x + 1000000000 * S = b * (((r * 1000000000 + x) / b) + 1000000000 * Q) + (r * 1000000000 + x) % b := by
 have h1 := Nat.div_add_mod (r * 1000000000 + x) b
 generalize (r * 1000000000 + x) / b = d at *
 generalize (r * 1000000000 + x) % b = m at *
 subst h
 grind

theorem short_lim {b r x : Nat} (hb : 0 < b) (hr : r < b) (hx : x < 1000000000) : (r * 1000000000 + x) / b < 1000000000 := by
 rw [Nat.div_lt_iff_lt_mul hb]
 have : (r + 1) * 1000000000 ≤ b * 1000000000 := Nat.mul_le_mul_right _ hr
 omega

theorem short_room {b r x : Nat} (hb : b ≤ 1000000000) (hr : r < b) (hx : x < 1000000000) : r * 1000000000 + x < 1000000000000000000 := by
 have : r * 1000000000 ≤ 999999999 * 1000000000 := Nat.mul_le_mul_right _ (by omega)
 omega

theorem rep_set_cons (q x : Nat) (Q : List Nat) : (List.replicate (q + 1) 0 ++ Q).set q x = List.replicate q 0 ++ x :: Q := by
 rw [List.set_append_left _ _ (by simp), rep_set, List.append_assoc]; rfl

theorem drop_cons_getD {l : List Nat} {k : Nat} (h : k < l.length) : l.drop k = l.getD k 0 :: l.drop (k + 1) := by
 rw [List.drop_eq_getElem_cons h]; simp [List.getD, h]

theorem natShort_any (v : Value) (l : List Nat) (b : Nat) (w : World) (h : SNat w v l) (hlen : l.length ≤ 1000000) (hb0 : 0 < b) (hb : b ≤ 1000000000) :
 Calls Tryz.prog 102 #[v, .int .u32 b] w (fun e w' => ∃ q m, e = .returned (.tuple #[q, .int .u32 (sval l % b : Nat)]) ∧ SNat w' q m ∧ Norm m ∧ sval m = sval l / b ∧ Fresh w w') := by
 obtain ⟨a, c, rfl⟩ := h.form
 obtain ⟨n, hn⟩ : ∃ n, n = l.length := ⟨_, rfl⟩
 rw [← hn] at h hlen ⊢
 obtain ⟨o, ho, mk⟩ := make_u32 n w (by omega)
 have t0 : ((b : Int) == 0) = false := by rw [beq_eq_false_iff_ne]; omega
 have H_h := hid h; have H_hn := hid hn; clear h hn
 go_enter Tryz.func102, Tryz.ntmps102
 go_wp2_with (fail)
 go_loopw [7, 8] (fun rv i wr => ∃ (k r : Nat) (Q : List Nat), k ≤ n ∧ i = .int .i64 ((k : Int) - 1) ∧ rv = .int .u64 r ∧ r < b ∧ Hid (Q.length = n - k) ∧ Hid (Lim Q) ∧ Hid (sval (l.drop k) = b * sval Q + r) ∧ Hid (Blk .u32 wr w.heap.size (List.replicate k 0 ++ Q)) ∧ Hid (Fresh w wr)) (fun _ i _ => (intOf i + 1).toNat)
 case atStart =>
  refine ⟨n, 0, [], Nat.le_refl _, rfl, rfl, hb0, hid (by simp), Lim.nil, hid (by rw [List.drop_of_length_le (by have := H_hn.out; omega)]; simp [sval]), hid (by rw [List.append_nil]; exact ho.out), (Keep.refl _ _).alloc o⟩
 case round =>
  obtain ⟨k, r, Q, hk, rfl, rfl, hr, hQl, hQlim, hQv, hblk, hfr⟩ := hrel
  by_cases hk0 : k = 0
  · subst hk0
    have e0 : List.replicate 0 0 ++ Q = Q := by simp
    have hbk := hblk.out
    rw [e0] at hbk
    have hs := SNat.of_blk hbk hQlim.out (by have := hQl.out; omega)
    rw [show Q.length = n by have := hQl.out; omega] at hs
    have hcall := natTrim_any _ _ _ hs
    have hv : sval l = b * sval Q + r := by have := hQv.out; simpa using this
    have H_hcall := hid hcall; have H_hv := hid hv; clear hcall hv
    clear hbk hs e0
    go_wp2_with (fail)
    refine H_hcall.out.mono ?_
    rintro e w2 ⟨v, m, rfl, h1, h2, h3, h4⟩
    have H_h1 := hid h1; have H_h2 := hid h2; have H_h3 := hid h3; have H_h4 := hid h4; clear h1 h2 h3 h4
    go_wp2_with (fail)
    go_ret2
    have h5 := H_hv.out
    have h6 : sval l / b = sval Q ∧ sval l % b = r := by
     rw [h5]
     exact ⟨by rw [Nat.mul_add_div hb0, Nat.div_eq_of_lt hr, Nat.add_zero], by rw [Nat.mul_add_mod, Nat.mod_eq_of_lt hr]⟩
    exact ⟨v, m, by rw [h6.2]; rfl, H_h1.out, H_h2.out, by rw [H_h3.out, h6.1], hfr.out.trans H_h4.out (fun _ _ h => h) (fun _ _ h => h)⟩
  · obtain ⟨j, rfl⟩ : ∃ j, k = j + 1 := ⟨k - 1, by omega⟩
    obtain ⟨gx, rfl, hcx, hgx, hcells⟩ := (H_h.out.fresh hfr.out).cells H_hn.out (by omega)
    have hxj := hcells j (by omega)
    have hxlim := H_h.out.lim.getD j
    obtain ⟨x, hxx⟩ : ∃ x, x = l.getD j 0 := ⟨_, rfl⟩
    rw [← hxx] at hxj hxlim
    have b1 := short_lim hb0 hr hxlim
    have b2 := short_room hb hr hxlim
    have hL : (List.replicate (j + 1) 0 ++ Q).length = n := by have := hQl.out; simp; omega
    have hcell := hblk.out.cell (o := j) (by rw [hL]; omega)
    have hfroz := hblk.out.frozen j
    generalize (List.replicate (j + 1) 0 ++ Q).getD j 0 = z9 at hcell
    have hset := hblk.out.set j ((r * 1000000000 + x) / b)
    rw [rep_set_cons] at hset
    have hstep := short_step (b := b) (x := x) hQv.out
    have hv' : sval (l.drop j) = x + 1000000000 * sval (l.drop (j + 1)) := by rw [drop_cons_getD (by have := H_hn.out; omega), ← hxx]; rfl
    rw [← hv'] at hstep
    have hm : (r * 1000000000 + x) % b < b := Nat.mod_lt _ hb0
    have hcast : (r : Int) * 1000000000 + (x : Int) = ((r * 1000000000 + x : Nat) : Int) := by omega
    have hq2 : Int.tdiv ((r : Int) * 1000000000 + (x : Int)) (b : Int) = (((r * 1000000000 + x) / b : Nat) : Int) := by rw [hcast, Int.tdiv_eq_ediv_of_nonneg (by omega)]; rfl
    have hr2 : Int.tmod ((r : Int) * 1000000000 + (x : Int)) (b : Int) = (((r * 1000000000 + x) % b : Nat) : Int) := by rw [hcast, Int.tmod_eq_emod_of_nonneg (by omega)]; rfl
    generalize (r * 1000000000 + x) / b = q1 at *
    generalize (r * 1000000000 + x) % b = r1 at *
    have H_hcells := hid hcells; have H_hxx := hid hxx; have H_hL := hid hL; have H_hv' := hid hv'; have H_hset := hid hset; have H_hstep := hid hstep; clear hcells hxx hL hv' hset hstep
    clear hcast
    go_wp2_with (fail)
    go_roundw
    case rel =>
     refine ⟨j, r1, q1 :: Q, by omega, rfl, rfl, hm, hid (by have := hQl.out; simp; omega), ?_, H_hstep, H_hset, hid (hfr.out.setCell (fun h => absurd h (Nat.lt_irrefl _)) _)⟩
     intro z hz
     rcases List.mem_cons.1 hz with h1 | h1
     · omega
     · exact hQlim.out z h1
    case measure => simp [intOf]

theorem norm_of_ge {l : List Nat} (hl : Lim l) (h : ∀ k, l.length = k + 1 → spow k ≤ sval l) : Norm l := by
 intro k hk h0
 have h1 := sval_take_succ (l := l) (k := k) (by omega)
 rw [← hk, List.take_length, h0] at h1
 have h2 := sval_lt (hl.take k)
 rw [List.length_take, Nat.min_eq_left (by omega)] at h2
 have := h k hk
 omega

theorem sval_take_succ' (l : List Nat) (k : Nat) : sval (l.take (k + 1)) = sval (l.take k) + spow k * l.getD k 0 := by
 by_cases h : k < l.length
 · exact sval_take_succ h
 · rw [List.take_of_length_le (by omega), List.take_of_length_le (by omega)]
   simp [List.getD, List.getElem?_eq_none (Nat.le_of_not_lt h)]

theorem add_step {O S c X Y x y t : Nat} (h : O + S * c = X + Y) (ht : t = c + x + y) :
 (O + S * (t % 1000000000)) + 1000000000 * S * (t / 1000000000) = (X + S * x) + (Y + S * y) := by
 have h1 := Nat.div_add_mod t 1000000000
 generalize t / 1000000000 = d at *
 generalize t % 1000000000 = m at *
 have : S * (1000000000 * d + m) = S * (c + x + y) := by rw [h1, ht]
 grind

theorem sub_step0 {O S b X Y x y : Nat} (h : X + S * b = O + Y) (hy : b + y ≤ x) : (X + S * x) + 1000000000 * S * 0 = (O + S * (x - (b + y))) + (Y + S * y) := by
 have : S * x = S * (x - (b + y)) + S * (b + y) := by rw [← Nat.mul_add]; congr 1; omega
 rw [this, Nat.mul_add]
 omega

theorem sub_step1 {O S b X Y x y : Nat} (h : X + S * b = O + Y) (hy : b + y ≤ x + 1000000000) : (X + S * x) + 1000000000 * S * 1 = (O + S * (x + 1000000000 - (b + y))) + (Y + S * y) := by
 have h1 : S * (x + 1000000000) = S * (x + 1000000000 - (b + y)) + S * (b + y) := by rw [← Nat.mul_add]; congr 1; omega
 have h2 : 1000000000 * S * 1 = S * 1000000000 := by rw [Nat.mul_one, Nat.mul_comm]
 rw [h2]
 rw [Nat.mul_add, Nat.mul_add] at h1
 omega

theorem guess_ge {r y k top yt : Nat} (hr : r < (top + 1) * spow k) (hy : yt * spow k ≤ y) (ht : 0 < yt) (hlim : r < 1000000000 * y) :
 r / y ≤ min (top / yt) 999999999 := by
 have hy0 : 0 < y := Nat.lt_of_lt_of_le (Nat.mul_pos ht (spow_pos k)) hy
 have h1 : r / y < 1000000000 := by rw [Nat.div_lt_iff_lt_mul hy0]; exact hlim
 have h2 : r / y ≤ top / yt := by
  rw [Nat.le_div_iff_mul_le ht]
  have h3 : r / y * y ≤ r := Nat.div_mul_le_self r y
  have h4 : r / y * (yt * spow k) ≤ r / y * y := Nat.mul_le_mul_left _ hy
  have h5 : r / y * yt * spow k < (top + 1) * spow k := by rw [Nat.mul_assoc]; omega
  have h6 := Nat.lt_of_mul_lt_mul_right h5
  omega
 omega

theorem long_step {S y Q r x d r' : Nat} (h : S = y * Q + r) (hd : d = (x + 1000000000 * r) / y) (hr' : r' = (x + 1000000000 * r) - y * d) (hy : 0 < y) :
 x + 1000000000 * S = y * (d + 1000000000 * Q) + r' ∧ r' < y := by
 have h1 := Nat.div_add_mod (x + 1000000000 * r) y
 have h2 := Nat.mod_lt (x + 1000000000 * r) hy
 rw [← hd] at h1
 generalize hR : x + 1000000000 * r = R at *
 have e : r' = R % y := by omega
 constructor
 · subst h
   have : y * (d + 1000000000 * Q) = y * d + 1000000000 * (y * Q) := by rw [Nat.mul_add, Nat.mul_left_comm]
   omega
 · omega

theorem scaled_div {a b t q r : Nat} (h : a * t = b * t * q + r) (hr : r < b * t) (ht : 0 < t) : a = b * q + r / t ∧ r / t < b := by
 have hd : t ∣ r := by
  have h1 : t ∣ a * t := ⟨a, Nat.mul_comm _ _⟩
  have h2 : t ∣ b * t * q := ⟨b * q, by rw [Nat.mul_comm b t, Nat.mul_assoc]⟩
  rw [h] at h1
  exact (Nat.dvd_add_right h2).1 h1
 obtain ⟨c, rfl⟩ := hd
 have hc : t * c / t = c := Nat.mul_div_cancel_left c ht
 rw [hc]
 constructor
 · have : t * a = t * (b * q + c) := by rw [Nat.mul_comm t a, h, Nat.mul_add]; congr 1; rw [Nat.mul_comm b t, Nat.mul_assoc]
   exact Nat.eq_of_mul_eq_mul_left ht this
 · rw [Nat.mul_comm b t] at hr
   exact Nat.lt_of_mul_lt_mul_left hr

end Go.Proofs.YtllencgncinphaaGreatDoor
