/- shopspring: RescalePair: three ways. Printed by gen_rp.py. -/
import Derived.Recover
import Derived.Test.YtllencgncinphaaGreatDoorKB13
import Derived.Test.YtllencgncinphaaGreatDoorKB19
import Derived.Test.YtllencgncinphaaGreatDoorKB32
import Derived.Test.YtllencgncinphaaGreatDoorKB42
import Derived.Test.YtllencgncinphaaGreatDoorKB44
import Derived.Test.YtllencgncinphaaGreatDoorKB47
namespace Go.Proofs.YtllencgncinphaaGreatDoor
open Go.RowKit
open Go.Lib (hid)



theorem results_cells3 {P : Program} {fn : Func} {p1 p2 p3 : Tmp} {ty1 ty2 ty3 : TypeId} {v1 v2 v3 : Value} (h : fn.results = #[.cell p1 ty1, .cell p2 ty2, .cell p3 ty3]) (tmps : Array Value) (w : World) (g1 g2 g3 : Nat)
 (h1 : tmps.getD p1 undef = .pointer (some ⟨g1, 0, none⟩)) (h2 : tmps.getD p2 undef = .pointer (some ⟨g2, 0, none⟩)) (h3 : tmps.getD p3 undef = .pointer (some ⟨g3, 0, none⟩))
 (e1 : (loadVar ty1 ⟨g1, 0, none⟩).run P w = .ok v1 w) (e2 : (loadVar ty2 ⟨g2, 0, none⟩).run P w = .ok v2 w) (e3 : (loadVar ty3 ⟨g3, 0, none⟩).run P w = .ok v3 w) :
 (results fn tmps).run P w = .ok (.tuple #[v1, v2, v3]) w := by
 have h1' : tmps[p1]?.getD undef = .pointer (some ⟨g1, 0, none⟩) := by simpa using h1
 have h2' : tmps[p2]?.getD undef = .pointer (some ⟨g2, 0, none⟩) := by simpa using h2
 have h3' : tmps[p3]?.getD undef = .pointer (some ⟨g3, 0, none⟩) := by simpa using h3
 simp [results, h, h1', h2', h3', asAddr, e1, e2, e3, Sem.run_bind, Result.andThen]

theorem boxes5d (w : World) (c1 c2 c3 c4 c5 : Array Value) (T1 T2 T3 T4 T5 : TypeId) : ∀ g, g = w.heap.size → ∀ w1, ((((w.alloc (.cells c1 T1)).alloc (.cells c2 T2)).alloc (.cells c3 T3)).alloc (.cells c4 T4)).alloc (.cells c5 T5) = w1 →
 w1.heap[g]? = some (.cells c1 T1 (0, 0)) ∧ w1.heap[g + 1]? = some (.cells c2 T2 (0, 0)) ∧ w1.heap[g + 1 + 1]? = some (.cells c3 T3 (0, 0)) ∧ w1.heap[g + 1 + 1 + 1]? = some (.cells c4 T4 (0, 0)) ∧ w1.heap[g + 1 + 1 + 1 + 1]? = some (.cells c5 T5 (0, 0)) ∧ Fresh w w1 := by
 rintro g rfl w1 rfl
 obtain ⟨h1, h2, h3, h4, _⟩ := boxes3 w c1 c2 c3 T1 T2 T3 _ rfl _ rfl
 obtain ⟨s1, s2, s4⟩ := boxes2 (((w.alloc (.cells c1 T1)).alloc (.cells c2 T2)).alloc (.cells c3 T3)) c4 c5 T4 T5 _ rfl _ rfl
 have hs : (((w.alloc (.cells c1 T1)).alloc (.cells c2 T2)).alloc (.cells c3 T3)).heap.size = w.heap.size + 1 + 1 + 1 := by simp
 rw [hs] at s1 s2
 exact ⟨row_fresh h1 s4, row_fresh h2 s4, row_fresh h3 s4, s1, s2, fresh_trans h4 s4⟩

theorem DecQuoRem1_idle (p q r : Addr) (w : World) :
 CallsD Tryz.prog 57 #[.pointer (some p), .pointer (some q), .pointer (some r)] .returning w fun e u' w' => e = .returned (.tuple #[]) ∧ u' = .returning ∧ w' = w := by
 refine callsD_of_wpS Tryz.func57 rfl fun c₀ cs hu => ?_
 apply wpS_seq
 apply wpS_region
 simp [wpOpsS, go_sem, recoverD, hu, Tryz.ntmps57, Exit.thenS]
 refine wpS_cond (t := false) (by simp [Act.eval, Array.replicate]) ?_
 simp only [Bool.false_eq_true, if_false]
 refine wpS_of_wp (wp_skip ?_)
 cases c₀
 simp_all [bodyPostS, results, Tryz.results57]

theorem DecQuoRem1_caught (g k h : Nat) (u : TypeId) (pv a b a' b' c : Value) (older : List PanicEntry) (w : World) (n1 : g ≠ k) (n2 : g ≠ h) (n3 : k ≠ h)
 (c0 : w.cell? ⟨g, 0, none⟩ = some a) (c1 : w.cell? ⟨g, 1, none⟩ = some b) (c2 : w.cell? ⟨k, 0, none⟩ = some a') (c3 : w.cell? ⟨k, 1, none⟩ = some b') (c4 : w.cell? ⟨h, 0, none⟩ = some c)
 (f0 : w.frozen? ⟨g, 0, none⟩ = false) (f1 : w.frozen? ⟨g, 1, none⟩ = false) (f2 : w.frozen? ⟨k, 0, none⟩ = false) (f3 : w.frozen? ⟨k, 1, none⟩ = false) (f4 : w.frozen? ⟨h, 0, none⟩ = false) :
 CallsD Tryz.prog 57 #[.pointer (some ⟨g, 0, none⟩), .pointer (some ⟨k, 0, none⟩), .pointer (some ⟨h, 0, none⟩)] (.panicking ({ v := .iface u pv, recovered := false } :: older)) w fun e u' w' =>
  e = .returned (.tuple #[]) ∧ u' = .panicking ({ v := .iface u pv, recovered := true } :: older) ∧ w' = ((((w.setCell ⟨g, 0, none⟩ (.string ⟨#[]⟩)).setCell ⟨g, 1, none⟩ (.int .i64 0)).setCell ⟨k, 0, none⟩ (.string ⟨#[]⟩)).setCell ⟨k, 1, none⟩ (.int .i64 0)).setCell ⟨h, 0, none⟩ (.int .i64 2) := by
 have e2 : ∀ v v', ((w.setCell ⟨g, 0, none⟩ v).setCell ⟨g, 1, none⟩ v').cell? ⟨k, 0, none⟩ = some a' := fun v v' => far_cell (Ne.symm n1) (far_cell (Ne.symm n1) c2)
 have e3 : ∀ v v', ((w.setCell ⟨g, 0, none⟩ v).setCell ⟨g, 1, none⟩ v').cell? ⟨k, 1, none⟩ = some b' := fun v v' => far_cell (Ne.symm n1) (far_cell (Ne.symm n1) c3)
 have e4 : ∀ v v' u u', ((((w.setCell ⟨g, 0, none⟩ v).setCell ⟨g, 1, none⟩ v').setCell ⟨k, 0, none⟩ u).setCell ⟨k, 1, none⟩ u').cell? ⟨h, 0, none⟩ = some c := fun v v' u u' => far_cell (Ne.symm n3) (far_cell (Ne.symm n3) (far_cell (Ne.symm n2) (far_cell (Ne.symm n2) c4)))
 refine callsD_of_wpS Tryz.func57 rfl fun c₀ cs hu => ?_
 apply wpS_seq
 apply wpS_region
 simp [wpOpsS, go_sem, recoverD, hu, Tryz.ntmps57, Exit.thenS]
 refine wpS_cond (t := true) (by simp [Act.eval, Array.replicate]) ?_
 simp only [if_true]
 apply wpS_region
 simp [wpOpsS, go_sem, c0, c1, e2, e3, e4, f0, f1, f2, f3, f4, bodyPostS, results, Tryz.results57]

set_option maxRecDepth 20000 in
set_option maxHeartbeats 4000000 in
theorem DecQuoRem_ok (z1 z2 s1 s2 e1 e2 m m2 n : Int) (p : Nat) (w : World) (hz1 : (wdig z1).length ≤ 300) (hz2 : (wdig z2).length ≤ 300) (he1 : -400 ≤ e1 ∧ e1 ≤ 400) (he2 : -400 ≤ e2 ∧ e2 ≤ 400) (hem : -2147483648 ≤ m ∧ m ≤ 2147483647) (hem2 : -2147483648 ≤ m2 ∧ m2 ≤ 2147483647) (hn : -400 ≤ n ∧ n ≤ 400)
 (hp : p ≤ 600) (hs1 : s1.natAbs < 10 ^ p) (hs2 : s2.natAbs < 10 ^ p) (hNG : NG ≤ w.heap.size)
 (hm : ∀ b1 v1 b2 v2 W, Fresh w W → ZI W b1 v1 z1 → ZI W b2 v2 z2 → Calls Tryz.prog 58 #[sd b1 e1, sd b2 e2, .int .i32 n] W (fun r w' => ∃ c1 c2 u1 u2, r = .returned (.tuple #[sd c1 m, sd c2 m2]) ∧ ZI w' c1 u1 s1 ∧ ZI w' c2 u2 s2 ∧ Fresh W w')) :
 Calls Tryz.prog 20 #[dd z1 e1, dd z2 e2, .int .i64 n] w (fun r w' => r = .returned (.tuple #[dd s1 m, dd s2 m2, .int .i64 0]) ∧ Fresh w w') := by
 have hmf : ∀ (fn : Fn) (first cap : Array Value) (w : World), (Instr.makeFunc fn first cap).run Tryz.prog w = .ok (.func fn first cap) w := fun _ _ _ _ => rfl
 have hm1 := fun W (hW : Fresh w W) => made_any z1 e1 W hz1 he1 (Nat.le_trans hNG hW.size)
 have hm2 := fun W (hW : Fresh w W) => made_any z2 e2 W hz2 he2 (Nat.le_trans hNG hW.size)
 have hdc1 := fun b v W (hx : ZI W b v s1) => dec_any b v s1 m p W hem hx hp hs1
 have hdc2 := fun b v W (hx : ZI W b v s2) => dec_any b v s2 m2 p W hem2 hx hp hs2
 have hpl := fun W => places_any n W hn
 have tn : IntKind.i32.wrap n = n := by rw [IntKind.wrap_i32]; omega
 unfold dd
 generalize bstr (wdig z1) = t1 at *
 generalize bstr (wdig z2) = t2 at *
 generalize bstr (wdig s1) = r1' at *
 generalize bstr (wdig s2) = r2' at *
 clear hz1 hz2 he1 he2 hem hem2 hs1 hs2 hNG hp hn
 have H_hm := hid hm; have H_hm1 := hid hm1; have H_hm2 := hid hm2; have H_hdc1 := hid hdc1; have H_hdc2 := hid hdc2; have H_hpl := hid hpl; clear hm hm1 hm2 hdc1 hdc2 hpl
 go_enter_defers Tryz.func20, Tryz.ntmps20
 go_wp2_with (fail)
 obtain ⟨g, hg⟩ : ∃ g, g = w.heap.size := ⟨_, rfl⟩
 have bx := boxes5d w #[.string t1, .int .i64 e1] #[.string t2, .int .i64 e2] #[.string ⟨#[]⟩, .int .i64 0] #[.string ⟨#[]⟩, .int .i64 0] #[.int .i64 0] 23 23 23 23 3 g hg
 have H_bx := hid bx; clear bx
 generalize hw1 : ((((w.alloc _).alloc _).alloc _).alloc _).alloc _ = w1
 rw [← hg]
 obtain ⟨d1, d2, d3, d4, d5, fa⟩ := H_bx.out w1 hw1
 have H_d1 := hid d1; have H_d2 := hid d2; have H_d3 := hid d3; have H_d4 := hid d4; have H_d5 := hid d5; have H_fa := hid fa; have H_hw1 := hid hw1; have H_hg := hid hg; clear d1 d2 d3 d4 d5 fa hw1 hg
 refine (H_hm1.out _ H_fa.out).mono ?_
 rintro e w2 ⟨b1, v1, rfl, y1, -, -, f2⟩
 have d1 := row_fresh H_d1.out f2
 have d2 := row_fresh H_d2.out f2
 have d3 := row_fresh H_d3.out f2
 have d4 := row_fresh H_d4.out f2
 have d5 := row_fresh H_d5.out f2
 have fa := fresh_trans H_fa.out f2
 obtain ⟨h1, hh1⟩ : ∃ h, h = w2.heap.size := ⟨_, rfl⟩
 have ak0 := row_cell d2 0
 have ak1 := row_cell d2 1
 simp at ak0 ak1
 have a0 := fun o => cell_fresh ak0 ((Keep.refl (fun _ => False) w2).alloc o)
 have a1 := fun o => cell_fresh ak1 ((Keep.refl (fun _ => False) w2).alloc o)
 clear ak0 ak1
 clear H_d1 H_d2 H_d3 H_d4 H_d5 H_fa
 have H_d1 := hid d1; have H_d2 := hid d2; have H_d3 := hid d3; have H_d4 := hid d4; have H_d5 := hid d5; have H_fa := hid fa; have H_f2 := hid f2; have H_hh1 := hid hh1; have H_y1 := hid y1; clear d1 d2 d3 d4 d5 fa f2 hh1 y1
 go_wp2_with (fail)
 generalize hw3 : w2.alloc _ = w3
 have f3 : Fresh w2 w3 := by rw [← hw3]; exact (Keep.refl _ _).alloc _
 have r1 : w3.heap[h1]? = some (.cells #[.pointer (some ⟨b1, 0, none⟩), .int .i32 e1] 61 (0, 0)) := by rw [← hw3, H_hh1.out]; exact heap_alloc_new w2 _
 rw [← H_hh1.out]
 have d1 := row_fresh H_d1.out f3
 have d2 := row_fresh H_d2.out f3
 have d3 := row_fresh H_d3.out f3
 have d4 := row_fresh H_d4.out f3
 have d5 := row_fresh H_d5.out f3
 have y1 := H_y1.out.fresh f3
 have fa := fresh_trans H_fa.out f3
 clear a0 a1
 clear H_d1 H_d2 H_d3 H_d4 H_d5 H_fa H_y1
 have H_d1 := hid d1; have H_d2 := hid d2; have H_d3 := hid d3; have H_d4 := hid d4; have H_d5 := hid d5; have H_r1 := hid r1; have H_fa := hid fa; have H_f3 := hid f3; have H_hw3 := hid hw3; have H_y1 := hid y1; clear d1 d2 d3 d4 d5 r1 fa f3 hw3 y1
 refine (H_hm2.out _ H_fa.out).mono ?_
 rintro e w4 ⟨b2, v2, rfl, y2, -, -, f4⟩
 have d1 := row_fresh H_d1.out f4
 have d2 := row_fresh H_d2.out f4
 have d3 := row_fresh H_d3.out f4
 have d4 := row_fresh H_d4.out f4
 have d5 := row_fresh H_d5.out f4
 have r1 := row_fresh H_r1.out f4
 have y1 := H_y1.out.fresh f4
 have fa := fresh_trans H_fa.out f4
 obtain ⟨h2, hh2⟩ : ∃ h, h = w4.heap.size := ⟨_, rfl⟩
 have ak0 := row_cell r1 0
 have ak1 := row_cell r1 1
 simp at ak0 ak1
 have a0 := fun o => cell_fresh ak0 ((Keep.refl (fun _ => False) w4).alloc o)
 have a1 := fun o => cell_fresh ak1 ((Keep.refl (fun _ => False) w4).alloc o)
 clear H_d1 H_d2 H_d3 H_d4 H_d5 H_r1 H_fa H_y1
 have H_d1 := hid d1; have H_d2 := hid d2; have H_d3 := hid d3; have H_d4 := hid d4; have H_d5 := hid d5; have H_r1 := hid r1; have H_fa := hid fa; have H_f4 := hid f4; have H_hh2 := hid hh2; have H_y1 := hid y1; have H_y2 := hid y2; clear d1 d2 d3 d4 d5 r1 fa f4 hh2 y1 y2
 go_wp2_with (fail)
 generalize hw5 : w4.alloc _ = w5
 have f5 : Fresh w4 w5 := by rw [← hw5]; exact (Keep.refl _ _).alloc _
 have r2 : w5.heap[h2]? = some (.cells #[.pointer (some ⟨b2, 0, none⟩), .int .i32 e2] 61 (0, 0)) := by rw [← hw5, H_hh2.out]; exact heap_alloc_new w4 _
 have r1 := row_fresh H_r1.out f5
 clear H_r1 ak0 ak1
 have H_r1 := hid r1; have H_r2 := hid r2; clear r1 r2
 rw [← H_hh2.out]
 have d1 := row_fresh H_d1.out f5
 have d2 := row_fresh H_d2.out f5
 have d3 := row_fresh H_d3.out f5
 have d4 := row_fresh H_d4.out f5
 have d5 := row_fresh H_d5.out f5
 have y1 := H_y1.out.fresh f5
 have y2 := H_y2.out.fresh f5
 have fa := fresh_trans H_fa.out f5
 clear a0 a1
 clear H_d1 H_d2 H_d3 H_d4 H_d5 H_fa H_y1 H_y2
 have H_d1 := hid d1; have H_d2 := hid d2; have H_d3 := hid d3; have H_d4 := hid d4; have H_d5 := hid d5; have H_fa := hid fa; have H_f5 := hid f5; have H_hw5 := hid hw5; have H_y1 := hid y1; have H_y2 := hid y2; clear d1 d2 d3 d4 d5 fa f5 hw5 y1 y2
 refine (H_hpl.out _).mono ?_
 rintro e w5' ⟨rfl, hsame⟩
 obtain rfl := hsame
 have i0 := row_cell H_r1.out 0
 have i1 := row_cell H_r1.out 1
 have i2 := row_cell H_r2.out 0
 have i3 := row_cell H_r2.out 1
 simp at i0 i1 i2 i3
 go_wp2_with (fail)
 refine (H_hm.out _ _ _ _ _ H_fa.out H_y1.out H_y2.out).mono ?_
 rintro e w6 ⟨c1, c2, u1, u2, rfl, y1, y2, f6⟩
 clear H_y1 H_y2 i0 i1 i2 i3 H_r1 H_r2
 have d3 := row_fresh H_d3.out f6
 have d4 := row_fresh H_d4.out f6
 have d5 := row_fresh H_d5.out f6
 have fa := fresh_trans H_fa.out f6
 have hlt := lt_of_row d5
 obtain ⟨h, hh⟩ : ∃ h, h = w6.heap.size := ⟨_, rfl⟩
 rw [← hh] at hlt
 have bb := boxes2 w6 #[.pointer (some ⟨c1, 0, none⟩), .int .i32 m] #[.pointer (some ⟨c2, 0, none⟩), .int .i32 m2] 61 61 h hh
 clear H_d1 H_d2 H_d3 H_d4 H_d5 H_fa
 have H_d3 := hid d3; have H_d4 := hid d4; have H_d5 := hid d5; have H_fa := hid fa; have H_f6 := hid f6; have H_y1 := hid y1; have H_y2 := hid y2; have H_hlt := hid hlt; have H_hh := hid hh; have H_bb := hid bb; clear d3 d4 d5 fa f6 y1 y2 hlt hh bb
 go_wp2_with (fail)
 generalize hw7 : (w6.alloc _).alloc _ = w7
 obtain ⟨n1, n2, f7⟩ := H_bb.out w7 hw7
 rw [← H_hh.out]
 have d3 := row_fresh H_d3.out f7
 have d4 := row_fresh H_d4.out f7
 have d5 := row_fresh H_d5.out f7
 have y1 := H_y1.out.fresh f7
 have y2 := H_y2.out.fresh f7
 have fa := fresh_trans H_fa.out f7
 have k0 := row_cell n1 0
 have k1 := row_cell n1 1
 have k2 := row_cell n2 0
 have k3 := row_cell n2 1
 simp at k0 k1 k2 k3
 clear H_d3 H_d4 H_d5 H_fa H_y1 H_y2 n1 n2
 have H_d3 := hid d3; have H_d4 := hid d4; have H_d5 := hid d5; have H_fa := hid fa; have H_f7 := hid f7; have H_hw7 := hid hw7; have H_y1 := hid y1; have H_y2 := hid y2; clear d3 d4 d5 fa f7 hw7 y1 y2
 refine wp_region_noPanic ?_
 refine wp_region_E (S := (fun (w' : World) => w'.cell? ⟨h, 0, none⟩ = some (.pointer (some ⟨c1, 0, none⟩)) ∧ w'.cell? ⟨h, 1, none⟩ = some (.int .i32 m) ∧ w'.cell? ⟨h + 1, 0, none⟩ = some (.pointer (some ⟨c2, 0, none⟩)) ∧ w'.cell? ⟨h + 1, 1, none⟩ = some (.int .i32 m2))) 6 (by kernel_rfl) (by exact ⟨k0, k1, k2, k3⟩) (fun hHeld => ?_)
 refine wpAnyE_takeL (i := 0) (c := 1) (v := ?v0_1) rfl (by kernel_rfl) (fun _ _ _ h => h) ⟨by rfl, ?y0_1⟩ (by assumption) ?r0_1
 case y0_1 => (intro w hSw; go_split_ands; go_simp; try with_reducible rfl)
 try simp only [Act.put, yA, yB, yD, yE, yF]
 refine wpAnyE_takeL (i := 2) (c := 3) (v := ?v2_1) rfl (by kernel_rfl) (fun _ _ _ h => h) ⟨by rfl, ?y2_1⟩ (by assumption) ?r2_1
 case y2_1 => (intro w hSw; go_split_ands; go_simp; try with_reducible rfl)
 try simp only [Act.put, yA, yB, yC, yD, yE, yF]
 refine wpAnyE_one (i := 1) rfl (by kernel_rfl) (fun K hK => ?_)
 go_simp
 refine (H_hdc1.out _ _ _ (H_y1.out.fresh ?cc)).mono ?_; (case cc => exact (Keep.refl _ _).drew); rintro r w8 ⟨rfl, y⟩; have f8 : Fresh w7 w8 := y.of_drew; have j0 := cell_fresh k0 f8; have j1 := cell_fresh k1 f8; have j2 := cell_fresh k2 f8; have j3 := cell_fresh k3 f8; have H_f8 := hid f8; clear y f8
 go_wp2_with (fail)
 have hHeld1 : ((fun (w' : World) => w'.cell? ⟨h, 0, none⟩ = some (.pointer (some ⟨c1, 0, none⟩)) ∧ w'.cell? ⟨h, 1, none⟩ = some (.int .i32 m) ∧ w'.cell? ⟨h + 1, 0, none⟩ = some (.pointer (some ⟨c2, 0, none⟩)) ∧ w'.cell? ⟨h + 1, 1, none⟩ = some (.int .i32 m2))) _ := ⟨j0, j1, j2, j3⟩
 refine hK.out _ _ (fun _ => hHeld1) ?_
 clear hK K
 try simp only [Act.put, yA, yB, yC, yD, yE, yF]
 refine wpAnyE_one (i := 3) rfl (by kernel_rfl) (fun K hK => ?_)
 go_simp
 refine (H_hdc2.out _ _ _ (H_y2.out.fresh H_f8.out)).mono ?_; rintro r w9 ⟨rfl, y⟩; have f9 := fresh_trans H_f8.out y; have n0 := cell_fresh k0 f9; have n1 := cell_fresh k1 f9; have n2 := cell_fresh k2 f9; have n3 := cell_fresh k3 f9; have x3 := row_fresh H_d3.out f9; have x4 := row_fresh H_d4.out f9; have x5 := row_fresh H_d5.out f9; have p0 := row_cell x3 0; have p1 := row_cell x3 1; have p2 := row_cell x4 0; have p3 := row_cell x4 1; have p4 := row_cell x5 0; simp at p0 p1 p2 p3 p4; have q0 := frozen_of_row _ _ 0 _ _ x3; have q1 := frozen_of_row _ _ 1 _ _ x3; have q2 := frozen_of_row _ _ 0 _ _ x4; have q3 := frozen_of_row _ _ 1 _ _ x4; have q4 := frozen_of_row _ _ 0 _ _ x5; have H_f9 := hid f9; have H_x3 := hid x3; have H_x4 := hid x4; have H_x5 := hid x5; clear y f9 x3 x4 x5
 go_wp2_with (fail)
 have hHeld2 : ((fun (w' : World) => w'.cell? ⟨h, 0, none⟩ = some (.pointer (some ⟨c1, 0, none⟩)) ∧ w'.cell? ⟨h, 1, none⟩ = some (.int .i32 m) ∧ w'.cell? ⟨h + 1, 0, none⟩ = some (.pointer (some ⟨c2, 0, none⟩)) ∧ w'.cell? ⟨h + 1, 1, none⟩ = some (.int .i32 m2))) _ := ⟨n0, n1, n2, n3⟩
 refine hK.out _ _ (fun _ => hHeld2) ?_
 clear hK K
 try simp only [Act.put, yA, yB, yC, yD, yE, yF]
 refine wpAnyE_one (i := 4) rfl (by kernel_rfl) (fun K hK => ?_)
 go_simp
 skip
 refine hK.out _ _ (fun _ => ?hs4_1) ?_
 case hs4_1 => exact ⟨(far_cell (by have := H_hlt.out; omega) (far_cell (by have := H_hlt.out; omega) n0)), (far_cell (by have := H_hlt.out; omega) (far_cell (by have := H_hlt.out; omega) n1)), (far_cell (by have := H_hlt.out; omega) (far_cell (by have := H_hlt.out; omega) n2)), (far_cell (by have := H_hlt.out; omega) (far_cell (by have := H_hlt.out; omega) n3))⟩
 clear hK K
 try simp only [Act.put, yA, yB, yC, yD, yE, yF]
 refine wpAnyE_one (i := 5) rfl (by kernel_rfl) (fun K hK => ?_)
 go_simp
 skip
 refine hK.out _ _ (fun _ => ?hs5_1) ?_
 case hs5_1 => exact ⟨(far_cell (by have := H_hlt.out; omega) (far_cell (by have := H_hlt.out; omega) (far_cell (by have := H_hlt.out; omega) (far_cell (by have := H_hlt.out; omega) n0)))), (far_cell (by have := H_hlt.out; omega) (far_cell (by have := H_hlt.out; omega) (far_cell (by have := H_hlt.out; omega) (far_cell (by have := H_hlt.out; omega) n1)))), (far_cell (by have := H_hlt.out; omega) (far_cell (by have := H_hlt.out; omega) (far_cell (by have := H_hlt.out; omega) (far_cell (by have := H_hlt.out; omega) n2)))), (far_cell (by have := H_hlt.out; omega) (far_cell (by have := H_hlt.out; omega) (far_cell (by have := H_hlt.out; omega) (far_cell (by have := H_hlt.out; omega) n3))))⟩
 clear hK K
 try simp only [Act.put, yA, yB, yC, yD, yE, yF]
 refine wpAnyE_one (i := 6) rfl (by kernel_rfl) (fun K hK => ?_)
 go_simp
 refine hK.out _ _ (fun h => Bool.noConfusion (show true = false from h)) ?_
 clear hK K
 try simp only [Act.put, yA, yB, yC, yD, yE, yF]
 refine wpAnyE_done (by kernel_rfl) ?_ _
 refine NoPanic.normal ?_
 go_wp2_with (fail)
 refine leaves_cons (f := 57) (args := #[.pointer (some ⟨g + 1 + 1, 0, none⟩), .pointer (some ⟨g + 1 + 1 + 1, 0, none⟩), .pointer (some ⟨g + 1 + 1 + 1 + 1, 0, none⟩)]) (by simp) (by simp [go_sem]) ?_
 refine (DecQuoRem1_idle _ _ _ _).mono ?_
 rintro e u' w'' ⟨rfl, rfl, rfl⟩
 generalize hwz : ((((w9.setCell _ _).setCell _ _).setCell _ _).setCell _ _).setCell _ _ = wz
 have a3 : wz.heap[g + 1 + 1]? = some (.cells #[.string r1', .int .i64 m] 23 (0, 0)) := by rw [← hwz]; exact row_set_ne (by omega) (row_set_ne (by omega) (row_set_ne (by omega) (row_set (row_set H_x3.out))))
 have a4 : wz.heap[g + 1 + 1 + 1]? = some (.cells #[.string r2', .int .i64 m2] 23 (0, 0)) := by rw [← hwz]; exact row_set_ne (by omega) (row_set (row_set (row_set_ne (by omega) (row_set_ne (by omega) H_x4.out))))
 have a5 : wz.heap[g + 1 + 1 + 1 + 1]? = some (.cells #[.int .i64 0] 3 (0, 0)) := by rw [← hwz]; exact row_set (row_set_ne (by omega) (row_set_ne (by omega) (row_set_ne (by omega) (row_set_ne (by omega) H_x5.out))))
 have c5 := row_cell a5 0
 simp at c5
 have hgw := H_hg.out
 have hff : Fresh w wz := by
  rw [← hwz]
  exact (((((fresh_trans H_fa.out H_f9.out).setCell (p := ⟨g + 1 + 1, 0, none⟩) (fun h => by change g + 1 + 1 < w.heap.size at h; omega) _).setCell (p := ⟨g + 1 + 1, 1, none⟩) (fun h => by change g + 1 + 1 < w.heap.size at h; omega) _).setCell (p := ⟨g + 1 + 1 + 1, 0, none⟩) (fun h => by change g + 1 + 1 + 1 < w.heap.size at h; omega) _).setCell (p := ⟨g + 1 + 1 + 1, 1, none⟩) (fun h => by change g + 1 + 1 + 1 < w.heap.size at h; omega) _).setCell (p := ⟨g + 1 + 1 + 1 + 1, 0, none⟩) (fun h => by change g + 1 + 1 + 1 + 1 < w.heap.size at h; omega) _
 exact ⟨_, results_cells3 rfl _ _ (g + 1 + 1) (g + 1 + 1 + 1) (g + 1 + 1 + 1 + 1) rfl rfl rfl (run_loadVar_row wz _ _ _ _ (0, 0) _ a3 Tryz.underlying23 rfl (by kernel_rfl)) (run_loadVar_row wz _ _ _ _ (0, 0) _ a4 Tryz.underlying23 rfl (by kernel_rfl)) (by simp [loadVar, go_sem, c5]), rfl, hff⟩

set_option maxRecDepth 20000 in
set_option maxHeartbeats 4000000 in
theorem DecQuoRem_zero (z1 z2 e1 e2 n : Int) (w : World) (hz1 : (wdig z1).length ≤ 300) (hz2 : (wdig z2).length ≤ 300) (he1 : -400 ≤ e1 ∧ e1 ≤ 400) (he2 : -400 ≤ e2 ∧ e2 ≤ 400) (hn : -400 ≤ n ∧ n ≤ 400)
 (hNG : NG ≤ w.heap.size)
 (hm : ∀ b1 v1 b2 v2 W, Fresh w W → ZI W b1 v1 z1 → ZI W b2 v2 z2 → Calls Tryz.prog 58 #[sd b1 e1, sd b2 e2, .int .i32 n] W (fun r w' => (∃ u pv, r = .panicked [{ v := .iface u pv, recovered := false }]) ∧ Fresh W w')) :
 Calls Tryz.prog 20 #[dd z1 e1, dd z2 e2, .int .i64 n] w (fun r w' => r = .returned (.tuple #[.agg #[.string ⟨#[]⟩, .int .i64 0], .agg #[.string ⟨#[]⟩, .int .i64 0], .int .i64 2]) ∧ Fresh w w') := by
 have hmf : ∀ (fn : Fn) (first cap : Array Value) (w : World), (Instr.makeFunc fn first cap).run Tryz.prog w = .ok (.func fn first cap) w := fun _ _ _ _ => rfl
 have hm1 := fun W (hW : Fresh w W) => made_any z1 e1 W hz1 he1 (Nat.le_trans hNG hW.size)
 have hm2 := fun W (hW : Fresh w W) => made_any z2 e2 W hz2 he2 (Nat.le_trans hNG hW.size)
 have hpl := fun W => places_any n W hn
 have tn : IntKind.i32.wrap n = n := by rw [IntKind.wrap_i32]; omega
 unfold dd
 generalize bstr (wdig z1) = t1 at *
 generalize bstr (wdig z2) = t2 at *
 clear hz1 hz2 he1 he2 hNG hn
 have H_hm := hid hm; have H_hm1 := hid hm1; have H_hm2 := hid hm2; have H_hpl := hid hpl; clear hm hm1 hm2 hpl
 go_enter_defers Tryz.func20, Tryz.ntmps20
 go_wp2_with (fail)
 obtain ⟨g, hg⟩ : ∃ g, g = w.heap.size := ⟨_, rfl⟩
 have bx := boxes5d w #[.string t1, .int .i64 e1] #[.string t2, .int .i64 e2] #[.string ⟨#[]⟩, .int .i64 0] #[.string ⟨#[]⟩, .int .i64 0] #[.int .i64 0] 23 23 23 23 3 g hg
 have H_bx := hid bx; clear bx
 generalize hw1 : ((((w.alloc _).alloc _).alloc _).alloc _).alloc _ = w1
 rw [← hg]
 obtain ⟨d1, d2, d3, d4, d5, fa⟩ := H_bx.out w1 hw1
 have H_d1 := hid d1; have H_d2 := hid d2; have H_d3 := hid d3; have H_d4 := hid d4; have H_d5 := hid d5; have H_fa := hid fa; have H_hw1 := hid hw1; have H_hg := hid hg; clear d1 d2 d3 d4 d5 fa hw1 hg
 refine (H_hm1.out _ H_fa.out).mono ?_
 rintro e w2 ⟨b1, v1, rfl, y1, -, -, f2⟩
 have d1 := row_fresh H_d1.out f2
 have d2 := row_fresh H_d2.out f2
 have d3 := row_fresh H_d3.out f2
 have d4 := row_fresh H_d4.out f2
 have d5 := row_fresh H_d5.out f2
 have fa := fresh_trans H_fa.out f2
 obtain ⟨h1, hh1⟩ : ∃ h, h = w2.heap.size := ⟨_, rfl⟩
 have ak0 := row_cell d2 0
 have ak1 := row_cell d2 1
 simp at ak0 ak1
 have a0 := fun o => cell_fresh ak0 ((Keep.refl (fun _ => False) w2).alloc o)
 have a1 := fun o => cell_fresh ak1 ((Keep.refl (fun _ => False) w2).alloc o)
 clear ak0 ak1
 clear H_d1 H_d2 H_d3 H_d4 H_d5 H_fa
 have H_d1 := hid d1; have H_d2 := hid d2; have H_d3 := hid d3; have H_d4 := hid d4; have H_d5 := hid d5; have H_fa := hid fa; have H_f2 := hid f2; have H_hh1 := hid hh1; have H_y1 := hid y1; clear d1 d2 d3 d4 d5 fa f2 hh1 y1
 go_wp2_with (fail)
 generalize hw3 : w2.alloc _ = w3
 have f3 : Fresh w2 w3 := by rw [← hw3]; exact (Keep.refl _ _).alloc _
 have r1 : w3.heap[h1]? = some (.cells #[.pointer (some ⟨b1, 0, none⟩), .int .i32 e1] 61 (0, 0)) := by rw [← hw3, H_hh1.out]; exact heap_alloc_new w2 _
 rw [← H_hh1.out]
 have d1 := row_fresh H_d1.out f3
 have d2 := row_fresh H_d2.out f3
 have d3 := row_fresh H_d3.out f3
 have d4 := row_fresh H_d4.out f3
 have d5 := row_fresh H_d5.out f3
 have y1 := H_y1.out.fresh f3
 have fa := fresh_trans H_fa.out f3
 clear a0 a1
 clear H_d1 H_d2 H_d3 H_d4 H_d5 H_fa H_y1
 have H_d1 := hid d1; have H_d2 := hid d2; have H_d3 := hid d3; have H_d4 := hid d4; have H_d5 := hid d5; have H_r1 := hid r1; have H_fa := hid fa; have H_f3 := hid f3; have H_hw3 := hid hw3; have H_y1 := hid y1; clear d1 d2 d3 d4 d5 r1 fa f3 hw3 y1
 refine (H_hm2.out _ H_fa.out).mono ?_
 rintro e w4 ⟨b2, v2, rfl, y2, -, -, f4⟩
 have d1 := row_fresh H_d1.out f4
 have d2 := row_fresh H_d2.out f4
 have d3 := row_fresh H_d3.out f4
 have d4 := row_fresh H_d4.out f4
 have d5 := row_fresh H_d5.out f4
 have r1 := row_fresh H_r1.out f4
 have y1 := H_y1.out.fresh f4
 have fa := fresh_trans H_fa.out f4
 obtain ⟨h2, hh2⟩ : ∃ h, h = w4.heap.size := ⟨_, rfl⟩
 have ak0 := row_cell r1 0
 have ak1 := row_cell r1 1
 simp at ak0 ak1
 have a0 := fun o => cell_fresh ak0 ((Keep.refl (fun _ => False) w4).alloc o)
 have a1 := fun o => cell_fresh ak1 ((Keep.refl (fun _ => False) w4).alloc o)
 clear H_d1 H_d2 H_d3 H_d4 H_d5 H_r1 H_fa H_y1
 have H_d1 := hid d1; have H_d2 := hid d2; have H_d3 := hid d3; have H_d4 := hid d4; have H_d5 := hid d5; have H_r1 := hid r1; have H_fa := hid fa; have H_f4 := hid f4; have H_hh2 := hid hh2; have H_y1 := hid y1; have H_y2 := hid y2; clear d1 d2 d3 d4 d5 r1 fa f4 hh2 y1 y2
 go_wp2_with (fail)
 generalize hw5 : w4.alloc _ = w5
 have f5 : Fresh w4 w5 := by rw [← hw5]; exact (Keep.refl _ _).alloc _
 have r2 : w5.heap[h2]? = some (.cells #[.pointer (some ⟨b2, 0, none⟩), .int .i32 e2] 61 (0, 0)) := by rw [← hw5, H_hh2.out]; exact heap_alloc_new w4 _
 have r1 := row_fresh H_r1.out f5
 clear H_r1 ak0 ak1
 have H_r1 := hid r1; have H_r2 := hid r2; clear r1 r2
 rw [← H_hh2.out]
 have d1 := row_fresh H_d1.out f5
 have d2 := row_fresh H_d2.out f5
 have d3 := row_fresh H_d3.out f5
 have d4 := row_fresh H_d4.out f5
 have d5 := row_fresh H_d5.out f5
 have y1 := H_y1.out.fresh f5
 have y2 := H_y2.out.fresh f5
 have fa := fresh_trans H_fa.out f5
 clear a0 a1
 clear H_d1 H_d2 H_d3 H_d4 H_d5 H_fa H_y1 H_y2
 have H_d1 := hid d1; have H_d2 := hid d2; have H_d3 := hid d3; have H_d4 := hid d4; have H_d5 := hid d5; have H_fa := hid fa; have H_f5 := hid f5; have H_hw5 := hid hw5; have H_y1 := hid y1; have H_y2 := hid y2; clear d1 d2 d3 d4 d5 fa f5 hw5 y1 y2
 refine (H_hpl.out _).mono ?_
 rintro e w5' ⟨rfl, hsame⟩
 obtain rfl := hsame
 have i0 := row_cell H_r1.out 0
 have i1 := row_cell H_r1.out 1
 have i2 := row_cell H_r2.out 0
 have i3 := row_cell H_r2.out 1
 simp at i0 i1 i2 i3
 go_wp2_with (fail)
 refine (H_hm.out _ _ _ _ _ H_fa.out H_y1.out H_y2.out).mono ?_
 rintro e w9 ⟨⟨u, pv, rfl⟩, f9⟩
 have x3 := row_fresh H_d3.out f9
 have x4 := row_fresh H_d4.out f9
 have x5 := row_fresh H_d5.out f9
 have fa := fresh_trans H_fa.out f9
 clear H_d1 H_d2 H_d3 H_d4 H_d5 H_fa i0 i1 i2 i3 H_r1 H_r2
 have H_x3 := hid x3; have H_x4 := hid x4; have H_x5 := hid x5; have H_fa := hid fa; have H_f9 := hid f9; clear x3 x4 x5 fa f9
 go_wp2_with (fail)
 have p0 := row_cell H_x3.out 0
 have p1 := row_cell H_x3.out 1
 have p2 := row_cell H_x4.out 0
 have p3 := row_cell H_x4.out 1
 have p4 := row_cell H_x5.out 0
 simp at p0 p1 p2 p3 p4
 refine leaves_cons (f := 57) (args := #[.pointer (some ⟨g + 1 + 1, 0, none⟩), .pointer (some ⟨g + 1 + 1 + 1, 0, none⟩), .pointer (some ⟨g + 1 + 1 + 1 + 1, 0, none⟩)]) (by simp) (by simp [go_sem]) ?_
 refine (DecQuoRem1_caught (g + 1 + 1) (g + 1 + 1 + 1) (g + 1 + 1 + 1 + 1) _ _ _ _ _ _ _ _ _ (by omega) (by omega) (by omega) p0 p1 p2 p3 p4 (frozen_of_row _ _ _ _ _ H_x3.out) (frozen_of_row _ _ _ _ _ H_x3.out) (frozen_of_row _ _ _ _ _ H_x4.out) (frozen_of_row _ _ _ _ _ H_x4.out) (frozen_of_row _ _ _ _ _ H_x5.out)).mono ?_
 rintro e u' w'' ⟨rfl, rfl, rfl⟩
 generalize hwz : ((((w9.setCell _ _).setCell _ _).setCell _ _).setCell _ _).setCell _ _ = wz
 have a3 : wz.heap[g + 1 + 1]? = some (.cells #[.string ⟨#[]⟩, .int .i64 0] 23 (0, 0)) := by rw [← hwz]; exact row_set_ne (by omega) (row_set_ne (by omega) (row_set_ne (by omega) (row_set (row_set H_x3.out))))
 have a4 : wz.heap[g + 1 + 1 + 1]? = some (.cells #[.string ⟨#[]⟩, .int .i64 0] 23 (0, 0)) := by rw [← hwz]; exact row_set_ne (by omega) (row_set (row_set (row_set_ne (by omega) (row_set_ne (by omega) H_x4.out))))
 have a5 : wz.heap[g + 1 + 1 + 1 + 1]? = some (.cells #[.int .i64 2] 3 (0, 0)) := by rw [← hwz]; exact row_set (row_set_ne (by omega) (row_set_ne (by omega) (row_set_ne (by omega) (row_set_ne (by omega) H_x5.out))))
 have c5 := row_cell a5 0
 simp at c5
 have hgw := H_hg.out
 have hff : Fresh w wz := by
  rw [← hwz]
  exact (((((H_fa.out).setCell (p := ⟨g + 1 + 1, 0, none⟩) (fun h => by change g + 1 + 1 < w.heap.size at h; omega) _).setCell (p := ⟨g + 1 + 1, 1, none⟩) (fun h => by change g + 1 + 1 < w.heap.size at h; omega) _).setCell (p := ⟨g + 1 + 1 + 1, 0, none⟩) (fun h => by change g + 1 + 1 + 1 < w.heap.size at h; omega) _).setCell (p := ⟨g + 1 + 1 + 1, 1, none⟩) (fun h => by change g + 1 + 1 + 1 < w.heap.size at h; omega) _).setCell (p := ⟨g + 1 + 1 + 1 + 1, 0, none⟩) (fun h => by change g + 1 + 1 + 1 + 1 < w.heap.size at h; omega) _
 exact ⟨_, results_cells3 rfl _ _ (g + 1 + 1) (g + 1 + 1 + 1) (g + 1 + 1 + 1 + 1) rfl rfl rfl (run_loadVar_row wz _ _ _ _ (0, 0) _ a3 Tryz.underlying23 rfl (by kernel_rfl)) (run_loadVar_row wz _ _ _ _ (0, 0) _ a4 Tryz.underlying23 rfl (by kernel_rfl)) (by simp [loadVar, go_sem, c5]), rfl, hff⟩

theorem FnDecQuoRem_zero (z1 e1 z2 e2 p : Int) (hz1 : z1.natAbs < 10 ^ 60) (he1 : -60 ≤ e1 ∧ e1 ≤ 60) (hz2 : z2.natAbs < 10 ^ 60) (he2 : -60 ≤ e2 ∧ e2 ≤ 60) (hp : -((100 : Nat) : Int) ≤ p ∧ p ≤ ((100 : Nat) : Int)) (h0 : z2 = 0) :
 (∀ W, Glob W → Calls Tryz.prog 20 #[.agg #[.string (bstr (wdig z1)), .int .i64 e1], .agg #[.string (bstr (wdig z2)), .int .i64 e2], .int .i64 p] W (fun r w' => r = .returned (.tuple #[.agg #[.string ⟨#[]⟩, .int .i64 0], .agg #[.string ⟨#[]⟩, .int .i64 0], .int .i64 2]) ∧ Fresh W w')) ∧
 (∀ x W, SFr W x (dnum z2 e2) (dden e2) → Calls Tryz.prog 21 #[x] W (fun r w' => r = .returned (.bool true) ∧ Fresh W w')) := by
 refine ⟨fun W hW => ?_, fun x W hx => IsZero_t h0 x W hx⟩
 subst h0
 have hp : -100 ≤ p ∧ p ≤ 100 := hp
 exact DecQuoRem_zero z1 0 e1 e2 p W (dec300 hz1) (dec300 hz2) (by omega) (by omega) (by omega) hW.1 (fun b1 v1 b2 v2 W' _ _ hx2 => QuoRem_zero b1 b2 v2 e1 e2 p W' hx2)

theorem FnDecQuoRem_facts (z1 e1 z2 e2 p : Int) (hz1 : z1.natAbs < 10 ^ 60) (he1 : -60 ≤ e1 ∧ e1 ≤ 60) (hz2 : z2.natAbs < 10 ^ 60) (he2 : -60 ≤ e2 ∧ e2 ≤ 60) (hp : -((100 : Nat) : Int) ≤ p ∧ p ≤ ((100 : Nat) : Int)) (h0 : z2 ≠ 0) : ∃ (zq ez zr er q m N : Int) (D : Nat) (M : Int) (K : Nat) (M2 : Int) (K2 : Nat) (M3 : Int) (K3 : Nat),
 (∀ W, Glob W → Calls Tryz.prog 20 #[.agg #[.string (bstr (wdig z1)), .int .i64 e1], .agg #[.string (bstr (wdig z2)), .int .i64 e2], .int .i64 p] W (fun r w' => r = .returned (.tuple #[.agg #[.string (bstr (wdig zq)), .int .i64 ez], .agg #[.string (bstr (wdig zr)), .int .i64 er], .int .i64 0]) ∧ Fresh W w')) ∧
 (∀ x W, SFr W x (dnum z2 e2) (dden e2) → Calls Tryz.prog 21 #[x] W (fun r w' => r = .returned (.bool false) ∧ Fresh W w')) ∧
 (∀ x y W, SFr W x (dnum z1 e1) (dden e1) → SFr W y (dnum z2 e2) (dden e2) → Calls Tryz.prog 22 #[x, y] W (FRet W N D)) ∧
 (∀ x W, SFr W x N D → Calls Tryz.prog 17 #[x, .int .i64 p, .int .i64 0] W (RdIRet W q m)) ∧
 (∀ x W, RdI W x q m → Calls Tryz.prog 18 #[x] W (FRet W M K)) ∧
 (∀ x W, SFr W x M K → Calls Tryz.prog 16 #[.agg #[.string (bstr (wdig zq)), .int .i64 ez], x] W (fun r w' => r = .returned (.bool true) ∧ Fresh W w')) ∧
 (∀ x y W, SFr W x (dnum z2 e2) (dden e2) → SFr W y M K → Calls Tryz.prog 24 #[x, y] W (FRet W M2 K2)) ∧
 (∀ x y W, SFr W x (dnum z1 e1) (dden e1) → SFr W y M2 K2 → Calls Tryz.prog 23 #[x, y] W (FRet W M3 K3)) ∧
 (∀ x W, SFr W x M3 K3 → Calls Tryz.prog 16 #[.agg #[.string (bstr (wdig zr)), .int .i64 er], x] W (fun r w' => r = .returned (.bool true) ∧ Fresh W w')) := by
 have hp : -100 ≤ p ∧ p ≤ 100 := hp
 obtain ⟨s, hs⟩ : ∃ s, s = -p := ⟨_, rfl⟩
 obtain ⟨E, hE⟩ : ∃ E, E = e1 - e2 - s := ⟨_, rfl⟩
 obtain ⟨er, her⟩ : ∃ er, er = (if E < 0 then e1 else s + e2) := ⟨_, rfl⟩
 obtain ⟨P, hP⟩ : ∃ P : Nat, P = 300 := ⟨_, rfl⟩
 have hA := qA_ltP (z := z1) (e := E) (P := P) hz1 (by omega)
 have hQ := tdiv_ltP (b := qB z2 E) hA
 have hR := tmod_ltP (b := qB z2 E) hA
 have her2 : -160 ≤ er ∧ er ≤ 160 := by rw [her]; split <;> omega
 have hd1 := dnum_lt2 (k := 300) hz1 (by omega) (show e1 ≤ 400 by omega) (by omega)
 have hd2 := dnum_lt2 (k := 300) hz2 (by omega) (show e2 ≤ 400 by omega) (by omega)
 have hdq := dnum_lt2 (k := 300) (e := s) hQ (by omega) (by omega) (by omega)
 have hdr := dnum_lt2 (k := 300) hR (by omega) (show er ≤ 400 by omega) (by omega)
 have k1 : dden e1 < spow 300 := dden_lt (by omega) (by omega)
 have k2 : dden e2 < spow 300 := dden_lt (by omega) (by omega)
 have k3 : dden s < spow 300 := dden_lt (by omega) (by omega)
 have k4 : dden er < spow 300 := dden_lt (by omega) (by omega)
 have m1 := spow_mono (show 300 ≤ 1000 by omega)
 have hmul : (dnum z2 e2 * dnum ((qA z1 E).tdiv (qB z2 E)) s).natAbs < spow 600 := by
  rw [Int.natAbs_mul, show 600 = 300 + 300 by rfl, spow_add]
  exact Nat.mul_lt_mul_of_lt_of_le hd2 (Nat.le_of_lt hdq) (spow_pos _)
 have hmd : dden e2 * dden s < spow 600 := by
  rw [show 600 = 300 + 300 by rfl, spow_add]
  exact Nat.mul_lt_mul_of_lt_of_le k2 (Nat.le_of_lt k3) (spow_pos _)
 have m2 := spow_mono (show 600 ≤ 1000 by omega)
 have hf := rem_frac (z1 := z1) (z2 := z2) (s := s) (e := E) (q := (qA z1 E).tdiv (qB z2 E)) (r := (qA z1 E).tmod (qB z2 E)) (er := er) he1 he2 (by omega) hE her (Int.mul_tdiv_add_tmod _ _).symm
 obtain ⟨hfc, hsq⟩ := says_tail P (by omega) (by omega) ((qA z1 E).tdiv (qB z2 E)) s ((qA z1 E).tdiv (qB z2 E)) s hQ (by omega) hQ (by omega) rfl
 refine ⟨(qA z1 E).tdiv (qB z2 E), s, (qA z1 E).tmod (qB z2 E), er, (qA z1 E).tdiv (qB z2 E), s, _, _, _, _, _, _, _, _, fun W hW => ?_, fun x W hx => IsZero_f h0 x W hx, fun x y W hx hy => FracDiv_dec hz1 he1 hz2 he2 x y W hx hy, fun x W hx => ?_,
  hfc, hsq,
  fun x y W hx hy => FracMul_any x y _ _ _ _ W hx hy (Nat.lt_of_lt_of_le hd2 m1) (Nat.lt_of_lt_of_le hdq m1) (Nat.lt_of_lt_of_le k2 m1) (Nat.lt_of_lt_of_le k3 m1),
  fun x y W hx hy => FracSub_any x y _ _ _ _ W hx hy (Nat.lt_of_lt_of_le hd1 m1) (Nat.lt_of_lt_of_le hmul m2) (Nat.lt_of_lt_of_le k1 m1) (Nat.lt_of_lt_of_le hmd m2),
  fun x W hx => Says_any _ er _ _ x W (Nat.le_trans (wdig_len_le hR (by omega)) (by omega)) (spow_of_ten hR (by omega)) (by omega) hx (Nat.lt_of_lt_of_le hdr m1) ?_ (Nat.lt_of_lt_of_le k4 m1) ?_ hf⟩
 · exact DecQuoRem_ok z1 z2 _ _ e1 e2 s er p P W (dec300 hz1) (dec300 hz2) (by omega) (by omega) (by omega) (by omega) (by omega) (by omega) hQ hR hW.1 (fun b1 v1 b2 v2 W' hW' hx1 hx2 => by
    rw [her]
    exact (QuoRem_ok b1 b2 v1 v2 z1 e1 z2 e2 p s E W' (hW.fresh hW') (wpow10_of hz1) (wpow10_of hz2) h0 hx1 hx2 (by omega) (by omega) (by omega) hs hE (by omega)).mono fun r w' h => by
     obtain ⟨bq, vq, br, vr, k1, k2, k3, -, -, -, -, k4⟩ := h
     exact ⟨bq, br, vq, vr, k1, k2, k3, k4⟩)
 · have := RoundQ_any 0 (fun _ _ _ => false) rounds_tr x z1 e1 z2 e2 p W hx hz1 hz2 h0 he1 he2 (by omega)
   rw [rdW_tr, show e1 - e2 + p = E by omega, quo_tr, ← hs] at this
   exact this
 · have h3 : ((dden e2 * dden s : Nat) : Int).natAbs < spow 600 := by rw [Int.natAbs_natCast]; exact hmd
   have h4 : (dnum z1 e1 * ((dden e2 * dden s : Nat) : Int)).natAbs < spow 900 := by
    rw [Int.natAbs_mul, show 900 = 300 + 600 by rfl, spow_add]
    exact Nat.mul_lt_mul_of_lt_of_le hd1 (Nat.le_of_lt h3) (spow_pos _)
   have h5 : (-(dnum z2 e2 * dnum ((qA z1 E).tdiv (qB z2 E)) s) * (dden e1 : Int)).natAbs < spow 900 := by
    rw [Int.natAbs_mul, Int.natAbs_neg, Int.natAbs_natCast, show 900 = 600 + 300 by rfl, spow_add]
    exact Nat.mul_lt_mul_of_lt_of_le hmul (Nat.le_of_lt k1) (spow_pos _)
   have h6 : 2 * spow 900 ≤ spow 1000 := by
    have e1 : spow 1000 = spow 900 * spow 100 := by rw [← spow_add]
    have e2 : 2 ≤ spow 100 := by rw [show 100 = 99 + 1 by rfl, spow_succ]; have := spow_pos 99; omega
    rw [e1, Nat.mul_comm]
    exact Nat.mul_le_mul_left _ e2
   omega
 · have h4 : dden e1 * (dden e2 * dden s) < spow 900 := by
    rw [show 900 = 300 + 600 by rfl, spow_add]
    exact Nat.mul_lt_mul_of_lt_of_le k1 (Nat.le_of_lt hmd) (spow_pos _)
   exact Nat.lt_of_lt_of_le h4 (spow_mono (by omega))

set_option maxRecDepth 20000 in
set_option maxHeartbeats 2000000 in
theorem FnDecQuoRem_out (t1 t2 : ByteArray) (x1 x2 n : Int) (w : World) (h1 : t1.size ≤ 9223372036854775807) (h2 : t2.size ≤ 9223372036854775807) (h : ¬(t1.size ≤ 2147483647 ∧ t2.size ≤ 2147483647)) :
 Calls Tryz.prog 4 #[.agg #[.string t1, .int .i64 x1], .agg #[.string t2, .int .i64 x2], .int .i64 n] w (VRet w (.bool true)) := by
 have hz1 := fun W => zzFits1_any t1 x1 W h1
 have hz2 := fun W => zzFits1_any t2 x2 W h2
 have hb : (decide (t1.size ≤ 2147483647) = true ∧ decide (t2.size ≤ 2147483647) = false) ∨ decide (t1.size ≤ 2147483647) = false := by
  by_cases k : t1.size ≤ 2147483647
  · exact .inl ⟨by simpa using k, by simp; omega⟩
  · exact .inr (by simpa using k)
 obtain ⟨g, hg⟩ : ∃ g, g = w.heap.size := ⟨_, rfl⟩
 have bx := boxes2 w #[.string t1, .int .i64 x1] #[.string t2, .int .i64 x2] 23 23 g hg
 clear h1 h2 h
 generalize decide (t1.size ≤ 2147483647) = q1 at *
 generalize decide (t2.size ≤ 2147483647) = q2 at *
 have H_bx := hid bx; have H_hz1 := hid hz1; have H_hz2 := hid hz2; clear bx hz1 hz2
 rcases hb with ⟨rfl, rfl⟩ | rfl
 all_goals
  go_enter Tryz.func4, Tryz.ntmps4
  go_wp2_with (fail)
  generalize hw1 : (w.alloc _).alloc _ = w1
  rw [← hg]
  obtain ⟨d1, d2, fa⟩ := H_bx.out w1 hw1
  have k0 := row_cell d1 0
  have k1 := row_cell d1 1
  have m0 := row_cell d2 0
  have m1 := row_cell d2 1
  simp at k0 k1 m0 m1
  have H_fa := hid fa; have H_hw1 := hid hw1; have H_d1 := hid d1; have H_d2 := hid d2; have H_hg := hid hg; clear fa hw1 d1 d2 hg
  go_wp2_with (fail)
  refine (H_hz1.out _).mono ?_
  rintro e w2 ⟨rfl, f2⟩
  have m0 := cell_fresh m0 f2
  have m1 := cell_fresh m1 f2
  have f2 := fresh_trans H_fa.out f2
  clear k0 k1
  have H_f2 := hid f2; clear f2
  go_wp2_with (fail)
 · refine (H_hz2.out _).mono ?_
   rintro e w3 ⟨rfl, f3⟩
   have f3 := fresh_trans H_f2.out f3
   clear m0 m1
   have H_f3 := hid f3; clear f3
   go_wp2_with (fail)
   go_ret
   exact ⟨rfl, H_f3.out⟩
 · go_ret
   exact ⟨rfl, H_f2.out⟩

set_option maxRecDepth 20000 in
set_option maxHeartbeats 4000000 in
theorem FnDecQuoRem_main (S1 S2 : List Nat) (x1 x2 n : Int) (w : World) (hG : Glob w) (hS1 : ∀ c ∈ S1, c < 256) (hS2 : ∀ c ∈ S2, c < 256) (hl1 : S1.length ≤ 2147483647) (hl2 : S2.length ≤ 2147483647) (hx1 : -9223372036854775808 ≤ x1 ∧ x1 ≤ 9223372036854775807) (hx2 : -9223372036854775808 ≤ x2 ∧ x2 ≤ 9223372036854775807) (hn : -9223372036854775808 ≤ n ∧ n ≤ 9223372036854775807) :
 Calls Tryz.prog 4 #[.agg #[.string (bstr S1), .int .i64 x1], .agg #[.string (bstr S2), .int .i64 x2], .int .i64 n] w (VRet w (.bool true)) := by
 have hz1 := fun W => zzFits1_any (bstr S1) x1 W (by rw [bstr_size]; omega)
 have hz2 := fun W => zzFits1_any (bstr S2) x2 W (by rw [bstr_size]; omega)
 rw [show decide ((bstr S1).size ≤ 2147483647) = true by rw [bstr_size]; simpa using hl1] at hz1
 rw [show decide ((bstr S2).size ≤ 2147483647) = true by rw [bstr_size]; simpa using hl2] at hz2
 have har := fun W => arTwo_any S1 S2 x1 x2 W hS1 hS2 hl1 hl2 hx1 hx2
 have hap := fun W => arPlaces_any n 100 W (by omega) hn
 generalize bstr S1 = t1 at *
 generalize bstr S2 = t2 at *
 clear hS1 hS2 hl1 hl2 hx1 hx2 hn
 obtain ⟨g, hg⟩ : ∃ g, g = w.heap.size := ⟨_, rfl⟩
 have bx := boxes2 w #[.string t1, .int .i64 x1] #[.string t2, .int .i64 x2] 23 23 g hg
 have H_bx := hid bx; have H_hz1 := hid hz1; have H_hz2 := hid hz2; have H_har := hid har; have H_hap := hid hap; have H_hG := hid hG; clear bx hz1 hz2 har hap hG
 go_enter Tryz.func4, Tryz.ntmps4
 go_wp2_with (fail)
 generalize hw1 : (w.alloc _).alloc _ = w1
 rw [← hg]
 obtain ⟨d1, d2, fa⟩ := H_bx.out w1 hw1
 have k0 := row_cell d1 0
 have k1 := row_cell d1 1
 have m0 := row_cell d2 0
 have m1 := row_cell d2 1
 simp at k0 k1 m0 m1
 have H_fa := hid fa; have H_hw1 := hid hw1; have H_d1 := hid d1; have H_d2 := hid d2; have H_hg := hid hg; clear fa hw1 d1 d2 hg
 go_wp2_with (fail)
 refine (H_hz1.out _).mono ?_
 rintro e w2 ⟨rfl, f2⟩
 have m0 := cell_fresh m0 f2
 have m1 := cell_fresh m1 f2
 clear k0 k1
 have H_f2 := hid f2; clear f2
 go_wp2_with (fail)
 refine (H_hz2.out _).mono ?_
 rintro e w3 ⟨rfl, f3⟩
 clear m0 m1
 have f13 := fresh_trans H_f2.out f3
 have d1 := row_fresh H_d1.out f13
 have d2 := row_fresh H_d2.out f13
 have fa := fresh_trans H_fa.out f13
 clear H_d1 H_d2 H_fa H_f2 f3 f13
 have k0 := row_cell d1 0
 have k1 := row_cell d1 1
 have m0 := row_cell d2 0
 have m1 := row_cell d2 1
 simp at k0 k1 m0 m1
 have H_d1 := hid d1; have H_d2 := hid d2; have H_fa := hid fa; clear d1 d2 fa
 go_wp2_with (fail)
 refine (H_har.out _).mono ?_
 rintro e w4 ⟨z1, e1, z2, e2, u1, u2, rfl, q1, q2, q4, q5, s1, s2, f4⟩
 clear k0 k1 m0 m1
 have d1 := row_fresh H_d1.out f4
 have d2 := row_fresh H_d2.out f4
 have fa := fresh_trans H_fa.out f4
 clear H_d1 H_d2 H_fa f4
 have hs1 := s1
 have hs2 := s2
 obtain ⟨na, va, la, da, dla, rfl, xa1, xa2, xa3, xa4, xa5, xa6⟩ := s1
 obtain ⟨nb, vb, lb, db, dlb, rfl, xb1, xb2, xb3, xb4, xb5, xb6⟩ := s2
 obtain ⟨aa, ca, rfl⟩ := xa1.form
 obtain ⟨ab, cb, rfl⟩ := xb1.form
 obtain ⟨ac, cc, rfl⟩ := xa5.form
 obtain ⟨ad, cd, rfl⟩ := xb5.form
 clear xa1 xa2 xa3 xa4 xa5 xa6 xb1 xb2 xb3 xb4 xb5 xb6
 generalize la.length = ln1 at *
 generalize lb.length = ln2 at *
 generalize dla.length = ln3 at *
 generalize dlb.length = ln4 at *
 clear la lb dla dlb
 obtain ⟨y1, hy1⟩ : ∃ y1, y1 = bstr (wdig z1) := ⟨_, rfl⟩
 obtain ⟨y2, hy2⟩ : ∃ y2, y2 = bstr (wdig z2) := ⟨_, rfl⟩
 rw [← hy1, ← hy2]
 obtain ⟨h, hh⟩ : ∃ h, h = w4.heap.size := ⟨_, rfl⟩
 have ba := boxes2 w4 #[.bool false, .slice none 0 0, .slice none 0 0] #[.bool false, .slice none 0 0, .slice none 0 0] 30 30 h hh
 clear H_hz1 H_hz2 H_har
 have H_d1 := hid d1; have H_d2 := hid d2; have H_fa := hid fa; have H_q1 := hid q1; have H_q2 := hid q2; have H_q4 := hid q4; have H_q5 := hid q5; have H_hy1 := hid hy1; have H_hy2 := hid hy2; have H_hh := hid hh; have H_ba := hid ba; have H_hs1 := hid hs1; have H_hs2 := hid hs2; clear d1 d2 fa q1 q2 q4 q5 hy1 hy2 hh ba hs1 hs2
 dsimp only
 refine (‹∀ (a : Act) (w_1 : World), wpList _ _ _ _ a w_1 → _›) _ _ ?_
 refine wl_value rfl (v := ?v1) (w' := w4) ?y1 ?r1
 case y1 => (go_simp; try with_reducible rfl)
 try simp only [Act.put, yD, yE, yF]
 refine wl_value rfl (v := ?v2) (w' := w4) ?y2 ?r2
 case y2 => (go_simp; try with_reducible rfl)
 try simp only [Act.put, yD, yE, yF]
 refine wl_value rfl (v := ?v3) (w' := w4) ?y3 ?r3
 case y3 => (go_simp; try with_reducible rfl)
 try simp only [Act.put, yD, yE, yF]
 refine wl_value rfl (v := ?v4) (w' := w4) ?y4 ?r4
 case y4 => (go_simp; try with_reducible rfl)
 try simp only [Act.put, yD, yE, yF]
 refine wl_value rfl (v := ?v5) (w' := w4) ?y5 ?r5
 case y5 => (go_simp; try with_reducible rfl)
 try simp only [Act.put, yD, yE, yF]
 refine wl_value rfl (v := .pointer (some ⟨h, 0, none⟩)) (w' := w4.alloc (.cells #[.bool false, .slice none 0 0, .slice none 0 0] 30 (0, 0))) ?y6 ?r6
 case y6 => (have hh := H_hh.out; go_simp)
 try simp only [Act.put, yD, yE, yF]
 refine wl_value rfl (v := .pointer (some ⟨h + 1, 0, none⟩)) (w' := (w4.alloc (.cells #[.bool false, .slice none 0 0, .slice none 0 0] 30 (0, 0))).alloc (.cells #[.bool false, .slice none 0 0, .slice none 0 0] 30 (0, 0))) ?y7 ?r7
 case y7 => (have hh := H_hh.out; go_simp)
 try simp only [Act.put, yD, yE, yF]
 generalize hw5 : (w4.alloc _).alloc _ = w5
 obtain ⟨r5, r6, f5⟩ := H_ba.out w5 hw5
 have hlt1 := lt_of_row H_d1.out
 have hlt2 := lt_of_row H_d2.out
 rw [← H_hh.out] at hlt1 hlt2
 have d1 := row_fresh H_d1.out f5
 have d2 := row_fresh H_d2.out f5
 have fa := fresh_trans H_fa.out f5
 clear H_d1 H_d2 H_fa
 have hs1 := H_hs1.out.fresh f5
 have hs2 := H_hs2.out.fresh f5
 clear H_hs1 H_hs2
 have c1 := d1
 have c2 := d2
 have c3 := r5
 have c4 := r6
 have H_d1 := hid d1; have H_d2 := hid d2; have H_r5 := hid r5; have H_r6 := hid r6; have H_fa := hid fa; have H_hw5 := hid hw5; have H_f5 := hid f5; have H_hlt1 := hid hlt1; have H_hlt2 := hid hlt2; have H_hs1 := hid hs1; have H_hs2 := hid hs2; have H_c1 := hid c1; have H_c2 := hid c2; have H_c3 := hid c3; have H_c4 := hid c4; clear d1 d2 r5 r6 fa hw5 f5 hlt1 hlt2 hs1 hs2 c1 c2 c3 c4
 obtain ⟨W8_, hW8⟩ : ∃ W, W = ((w5.setCell ⟨g, 0, none⟩ (.string y1)).setCell ⟨g, 1, none⟩ (.int .i64 e1)) := ⟨_, rfl⟩
 refine wl_skip rfl (w' := W8_) ?y8 ?r8
 case y8 => (rw [hW8]; have p0 := row_cell H_d1.out 0; have p1 := row_cell H_d1.out 1; simp at p0 p1; have q0 : w5.frozen? ⟨g, 0, none⟩ = false := frozen_of_row _ _ _ _ _ H_d1.out; have q1 : w5.frozen? ⟨g, 1, none⟩ = false := frozen_of_row _ _ _ _ _ H_d1.out; go_simp; try with_reducible rfl)
 try simp only [Act.put]
 have d1 : W8_.heap[g]? = some (.cells #[.string y1, .int .i64 e1] 23 (0, 0)) := by rw [hW8]; exact (row_set (row_set H_d1.out))
 have d2 : W8_.heap[g + 1]? = some (.cells #[.string t2, .int .i64 x2] 23 (0, 0)) := by rw [hW8]; exact (row_set_ne (by have := H_hlt1.out; have := H_hlt2.out; omega) (row_set_ne (by have := H_hlt1.out; have := H_hlt2.out; omega) H_d2.out))
 have r5 : W8_.heap[h]? = some (.cells #[.bool false, .slice none 0 0, .slice none 0 0] 30 (0, 0)) := by rw [hW8]; exact (row_set_ne (by have := H_hlt1.out; have := H_hlt2.out; omega) (row_set_ne (by have := H_hlt1.out; have := H_hlt2.out; omega) H_r5.out))
 have r6 : W8_.heap[h + 1]? = some (.cells #[.bool false, .slice none 0 0, .slice none 0 0] 30 (0, 0)) := by rw [hW8]; exact (row_set_ne (by have := H_hlt1.out; have := H_hlt2.out; omega) (row_set_ne (by have := H_hlt1.out; have := H_hlt2.out; omega) H_r6.out))
 have hf8 : Fresh w W8_ := by
  rw [hW8]
  have h1 := H_hg.out; have h2 := H_hlt1.out; have h3 := H_hlt2.out
  exact (H_fa.out.setCell (p := ⟨g, 0, none⟩) (fun hk => by change g < w.heap.size at hk; omega) _).setCell (p := ⟨g, 1, none⟩) (fun hk => by change g < w.heap.size at hk; omega) _
 clear H_d1 H_d2 H_r5 H_r6 H_fa
 have fa := hf8
 clear hf8
 have hS8 := hW8
 clear hW8
 have H_d1 := hid d1; have H_d2 := hid d2; have H_r5 := hid r5; have H_r6 := hid r6; have H_fa := hid fa; have H_hS8 := hid hS8; clear d1 d2 r5 r6 fa hS8
 obtain ⟨W9_, hW9⟩ : ∃ W, W = ((W8_.setCell ⟨g + 1, 0, none⟩ (.string y2)).setCell ⟨g + 1, 1, none⟩ (.int .i64 e2)) := ⟨_, rfl⟩
 refine wl_skip rfl (w' := W9_) ?y9 ?r9
 case y9 => (rw [hW9]; have p0 := row_cell H_d2.out 0; have p1 := row_cell H_d2.out 1; simp at p0 p1; have q0 : W8_.frozen? ⟨g + 1, 0, none⟩ = false := frozen_of_row _ _ _ _ _ H_d2.out; have q1 : W8_.frozen? ⟨g + 1, 1, none⟩ = false := frozen_of_row _ _ _ _ _ H_d2.out; go_simp; try with_reducible rfl)
 try simp only [Act.put]
 have d1 : W9_.heap[g]? = some (.cells #[.string y1, .int .i64 e1] 23 (0, 0)) := by rw [hW9]; exact (row_set_ne (by have := H_hlt1.out; have := H_hlt2.out; omega) (row_set_ne (by have := H_hlt1.out; have := H_hlt2.out; omega) H_d1.out))
 have d2 : W9_.heap[g + 1]? = some (.cells #[.string y2, .int .i64 e2] 23 (0, 0)) := by rw [hW9]; exact (row_set (row_set H_d2.out))
 have r5 : W9_.heap[h]? = some (.cells #[.bool false, .slice none 0 0, .slice none 0 0] 30 (0, 0)) := by rw [hW9]; exact (row_set_ne (by have := H_hlt1.out; have := H_hlt2.out; omega) (row_set_ne (by have := H_hlt1.out; have := H_hlt2.out; omega) H_r5.out))
 have r6 : W9_.heap[h + 1]? = some (.cells #[.bool false, .slice none 0 0, .slice none 0 0] 30 (0, 0)) := by rw [hW9]; exact (row_set_ne (by have := H_hlt1.out; have := H_hlt2.out; omega) (row_set_ne (by have := H_hlt1.out; have := H_hlt2.out; omega) H_r6.out))
 have hf9 : Fresh w W9_ := by
  rw [hW9]
  have h1 := H_hg.out; have h2 := H_hlt1.out; have h3 := H_hlt2.out
  exact (H_fa.out.setCell (p := ⟨g + 1, 0, none⟩) (fun hk => by change g + 1 < w.heap.size at hk; omega) _).setCell (p := ⟨g + 1, 1, none⟩) (fun hk => by change g + 1 < w.heap.size at hk; omega) _
 clear H_d1 H_d2 H_r5 H_r6 H_fa
 have fa := hf9
 clear hf9
 have hS9 := hW9
 clear hW9
 have H_d1 := hid d1; have H_d2 := hid d2; have H_r5 := hid r5; have H_r6 := hid r6; have H_fa := hid fa; have H_hS9 := hid hS9; clear d1 d2 r5 r6 fa hS9
 obtain ⟨W10_, hW10⟩ : ∃ W, W = (((W9_.setCell ⟨h, 0, none⟩ (.bool na)).setCell ⟨h, 1, none⟩ (.slice aa ln1 ca)).setCell ⟨h, 2, none⟩ (.slice ac ln3 cc)) := ⟨_, rfl⟩
 refine wl_skip rfl (w' := W10_) ?y10 ?r10
 case y10 => (rw [hW10]; have p0 := row_cell H_r5.out 0; have p1 := row_cell H_r5.out 1; have p2 := row_cell H_r5.out 2; simp at p0 p1 p2; have q0 : W9_.frozen? ⟨h, 0, none⟩ = false := frozen_of_row _ _ _ _ _ H_r5.out; have q1 : W9_.frozen? ⟨h, 1, none⟩ = false := frozen_of_row _ _ _ _ _ H_r5.out; have q2 : W9_.frozen? ⟨h, 2, none⟩ = false := frozen_of_row _ _ _ _ _ H_r5.out; go_simp; try with_reducible rfl)
 try simp only [Act.put]
 have d1 : W10_.heap[g]? = some (.cells #[.string y1, .int .i64 e1] 23 (0, 0)) := by rw [hW10]; exact (row_set_ne (by have := H_hlt1.out; have := H_hlt2.out; omega) (row_set_ne (by have := H_hlt1.out; have := H_hlt2.out; omega) (row_set_ne (by have := H_hlt1.out; have := H_hlt2.out; omega) H_d1.out)))
 have d2 : W10_.heap[g + 1]? = some (.cells #[.string y2, .int .i64 e2] 23 (0, 0)) := by rw [hW10]; exact (row_set_ne (by have := H_hlt1.out; have := H_hlt2.out; omega) (row_set_ne (by have := H_hlt1.out; have := H_hlt2.out; omega) (row_set_ne (by have := H_hlt1.out; have := H_hlt2.out; omega) H_d2.out)))
 have r5 : W10_.heap[h]? = some (.cells #[.bool na, .slice aa ln1 ca, .slice ac ln3 cc] 30 (0, 0)) := by rw [hW10]; exact (row_set (row_set (row_set H_r5.out)))
 have r6 : W10_.heap[h + 1]? = some (.cells #[.bool false, .slice none 0 0, .slice none 0 0] 30 (0, 0)) := by rw [hW10]; exact (row_set_ne (by have := H_hlt1.out; have := H_hlt2.out; omega) (row_set_ne (by have := H_hlt1.out; have := H_hlt2.out; omega) (row_set_ne (by have := H_hlt1.out; have := H_hlt2.out; omega) H_r6.out)))
 have hf10 : Fresh w W10_ := by
  rw [hW10]
  have h1 := H_hg.out; have h2 := H_hlt1.out; have h3 := H_hlt2.out
  exact Fresh.set3 H_fa.out (by omega)
 clear H_d1 H_d2 H_r5 H_r6 H_fa
 have fa := hf10
 clear hf10
 have hS10 := hW10
 clear hW10
 have H_d1 := hid d1; have H_d2 := hid d2; have H_r5 := hid r5; have H_r6 := hid r6; have H_fa := hid fa; have H_hS10 := hid hS10; clear d1 d2 r5 r6 fa hS10
 obtain ⟨W11_, hW11⟩ : ∃ W, W = (((W10_.setCell ⟨h + 1, 0, none⟩ (.bool nb)).setCell ⟨h + 1, 1, none⟩ (.slice ab ln2 cb)).setCell ⟨h + 1, 2, none⟩ (.slice ad ln4 cd)) := ⟨_, rfl⟩
 refine wl_skip rfl (w' := W11_) ?y11 ?r11
 case y11 => (rw [hW11]; have p0 := row_cell H_r6.out 0; have p1 := row_cell H_r6.out 1; have p2 := row_cell H_r6.out 2; simp at p0 p1 p2; have q0 : W10_.frozen? ⟨h + 1, 0, none⟩ = false := frozen_of_row _ _ _ _ _ H_r6.out; have q1 : W10_.frozen? ⟨h + 1, 1, none⟩ = false := frozen_of_row _ _ _ _ _ H_r6.out; have q2 : W10_.frozen? ⟨h + 1, 2, none⟩ = false := frozen_of_row _ _ _ _ _ H_r6.out; go_simp; try with_reducible rfl)
 try simp only [Act.put]
 have d1 : W11_.heap[g]? = some (.cells #[.string y1, .int .i64 e1] 23 (0, 0)) := by rw [hW11]; exact (row_set_ne (by have := H_hlt1.out; have := H_hlt2.out; omega) (row_set_ne (by have := H_hlt1.out; have := H_hlt2.out; omega) (row_set_ne (by have := H_hlt1.out; have := H_hlt2.out; omega) H_d1.out)))
 have d2 : W11_.heap[g + 1]? = some (.cells #[.string y2, .int .i64 e2] 23 (0, 0)) := by rw [hW11]; exact (row_set_ne (by have := H_hlt1.out; have := H_hlt2.out; omega) (row_set_ne (by have := H_hlt1.out; have := H_hlt2.out; omega) (row_set_ne (by have := H_hlt1.out; have := H_hlt2.out; omega) H_d2.out)))
 have r5 : W11_.heap[h]? = some (.cells #[.bool na, .slice aa ln1 ca, .slice ac ln3 cc] 30 (0, 0)) := by rw [hW11]; exact (row_set_ne (by have := H_hlt1.out; have := H_hlt2.out; omega) (row_set_ne (by have := H_hlt1.out; have := H_hlt2.out; omega) (row_set_ne (by have := H_hlt1.out; have := H_hlt2.out; omega) H_r5.out)))
 have r6 : W11_.heap[h + 1]? = some (.cells #[.bool nb, .slice ab ln2 cb, .slice ad ln4 cd] 30 (0, 0)) := by rw [hW11]; exact (row_set (row_set (row_set H_r6.out)))
 have hf11 : Fresh w W11_ := by
  rw [hW11]
  have h1 := H_hg.out; have h2 := H_hlt1.out; have h3 := H_hlt2.out
  exact Fresh.set3 H_fa.out (by omega)
 clear H_d1 H_d2 H_r5 H_r6 H_fa
 have fa := hf11
 clear hf11
 have hS11 := hW11
 clear hW11
 have H_d1 := hid d1; have H_d2 := hid d2; have H_r5 := hid r5; have H_r6 := hid r6; have H_fa := hid fa; have H_hS11 := hid hS11; clear d1 d2 r5 r6 fa hS11
 obtain ⟨-, -, -, -, hsf, -⟩ := four_rows (by omega) (by have := H_hlt1.out; omega) (by have := H_hlt1.out; omega) (by have := H_hlt2.out; omega) (by have := H_hlt2.out; omega) (by omega) H_c1.out H_c2.out H_c3.out H_c4.out _ _ _ _ _ _ _ _ _ _ (by intro n; simp [wd]) (by intro n; simp [wd]) (by intro n; simp [wd]) (by intro n; simp [wd]) W11_ (by rw [H_hS11.out, H_hS10.out, H_hS9.out, H_hS8.out])
 have hs1 := hsf _ _ _ H_hs1.out
 have hs2 := hsf _ _ _ H_hs2.out
 clear H_hs1 H_hs2 hsf H_c1 H_c2 H_c3 H_c4 H_hS8 H_hS9 H_hS10 H_hS11 H_hw5 H_f5 H_ba
 have k0 := row_cell H_d1.out 0
 have k1 := row_cell H_d1.out 1
 have k2 := row_cell H_d2.out 0
 have k3 := row_cell H_d2.out 1
 simp at k0 k1 k2 k3
 have H_hs1 := hid hs1; have H_hs2 := hid hs2; clear hs1 hs2
 go_wp2_with (fail)
 refine (H_hap.out _).mono ?_
 rintro r w11 ⟨p, rfl, hp, hw11⟩
 obtain rfl : W11_ = w11 := hw11.symm
 by_cases h0 : z2 = 0
 · obtain ⟨hop, hiz⟩ := FnDecQuoRem_zero z1 e1 z2 e2 p H_q1.out H_q2.out H_q4.out H_q5.out hp h0
   rw [← H_hy1.out, ← H_hy2.out] at hop
   have hs1 := H_hs1.out
   have hs2 := H_hs2.out
   clear H_hs1 H_hs2 H_hy1 H_hy2 H_q1 H_q2 H_q4 H_q5 h0 H_hap
   clear hp
   obtain ⟨N2, hN2⟩ : ∃ N2, dnum z2 e2 = N2 := ⟨_, rfl⟩
   obtain ⟨D2, hD2⟩ : ∃ D2, dden e2 = D2 := ⟨_, rfl⟩
   rw [hN2, hD2] at hs2
   simp only [hN2, hD2] at hiz
   clear hN2 hD2
   have H_hs2 := hid hs2
   clear hs2
   clear hs1
   have H_hop := hid hop
   clear hop
   have H_hiz := hid hiz
   clear hiz
   have k0 := row_cell H_d1.out 0
   have k1 := row_cell H_d1.out 1
   have k2 := row_cell H_d2.out 0
   have k3 := row_cell H_d2.out 1
   simp at k0 k1 k2 k3
   go_wp2_with (fail)
   refine (H_hop.out _ (H_hG.out.fresh H_fa.out)).mono ?_
   rintro r w12 ⟨rfl, f12⟩
   clear k0 k1 k2 k3
   obtain ⟨h7, hh7⟩ : ∃ k, k = w12.heap.size := ⟨_, rfl⟩
   have r5 := row_fresh H_r5.out f12
   have r6 := row_fresh H_r6.out f12
   clear H_r5 H_r6
   have aj0 := row_cell r6 0
   have aj1 := row_cell r6 1
   have aj2 := row_cell r6 2
   simp at aj0 aj1 aj2
   have b0 := fun o o' => cell_fresh aj0 (((Keep.refl (fun _ => False) w12).alloc o).alloc o')
   have b1 := fun o o' => cell_fresh aj1 (((Keep.refl (fun _ => False) w12).alloc o).alloc o')
   have b2 := fun o o' => cell_fresh aj2 (((Keep.refl (fun _ => False) w12).alloc o).alloc o')
   clear aj0 aj1 aj2
   have H_f12 := hid f12
   clear f12
   have H_hh7 := hid hh7
   clear hh7
   have H_r5 := hid r5
   clear r5
   have H_r6 := hid r6
   clear r6
   go_wp2_with (fail)
   clear b0 b1 b2
   generalize hw13 : (w12.alloc _).alloc _ = w13
   rw [← H_hh7.out]
   obtain ⟨r7, r8, f13⟩ := boxes2 w12 #[.string ⟨#[]⟩, .int .i64 0] #[.string ⟨#[]⟩, .int .i64 0] 23 23 h7 H_hh7.out w13 hw13
   have r5 := row_fresh H_r5.out f13
   have r6 := row_fresh H_r6.out f13
   have f13 := fresh_trans H_f12.out f13
   have fa := fresh_trans H_fa.out f13
   have hs2 := H_hs2.out.fresh f13
   clear H_r5 H_r6 H_fa H_hs2 H_f12 H_d1 H_d2
   have H_fa := hid fa
   clear fa
   have H_f13 := hid f13
   clear f13
   refine (H_hiz.out _ _ hs2).mono ?_
   rintro r w14 ⟨rfl, f14⟩
   have fa := fresh_trans H_fa.out f14
   have H_fa2 := hid fa
   clear fa f14 r5 r6 r7 r8
   go_wp2_with (fail)
   go_ret
   exact ⟨rfl, H_fa2.out⟩
 · obtain ⟨zq, ez, zr, er, q, m, N, D, M, K, M2, K2, M3, K3, hop, hiz, hdv, hrd, hfc, hsq, hml, hsb, hsy⟩ := FnDecQuoRem_facts z1 e1 z2 e2 p H_q1.out H_q2.out H_q4.out H_q5.out hp h0
   rw [← H_hy1.out, ← H_hy2.out] at hop
   have hs1 := H_hs1.out
   have hs2 := H_hs2.out
   clear H_hs1 H_hs2 H_hy1 H_hy2 H_q1 H_q2 H_q4 H_q5 h0 H_hap
   generalize bstr (wdig zr) = yr at *
   generalize bstr (wdig zq) = yq at *
   obtain ⟨N1, hN1⟩ : ∃ N1, dnum z1 e1 = N1 := ⟨_, rfl⟩
   obtain ⟨D1, hD1⟩ : ∃ D1, dden e1 = D1 := ⟨_, rfl⟩
   obtain ⟨N2, hN2⟩ : ∃ N2, dnum z2 e2 = N2 := ⟨_, rfl⟩
   obtain ⟨D2, hD2⟩ : ∃ D2, dden e2 = D2 := ⟨_, rfl⟩
   rw [hN1, hD1] at hs1
   rw [hN2, hD2] at hs2
   simp only [hN1, hD1, hN2, hD2] at hiz hdv hml hsb
   clear hN1 hD1 hN2 hD2
   have H_hs2 := hid hs2
   clear hs2
   have H_hs1 := hid hs1
   clear hs1
   have H_hop := hid hop
   clear hop
   have H_hiz := hid hiz
   clear hiz
   have H_hdv := hid hdv
   clear hdv
   have H_hrd := hid hrd
   clear hrd
   have H_hfc := hid hfc
   clear hfc
   have H_hsq := hid hsq
   clear hsq
   have H_hml := hid hml
   clear hml
   have H_hsb := hid hsb
   clear hsb
   have H_hsy := hid hsy
   clear hsy
   have H_hp := hid hp
   clear hp
   have k0 := row_cell H_d1.out 0
   have k1 := row_cell H_d1.out 1
   have k2 := row_cell H_d2.out 0
   have k3 := row_cell H_d2.out 1
   simp at k0 k1 k2 k3
   go_wp2_with (fail)
   refine (H_hop.out _ (H_hG.out.fresh H_fa.out)).mono ?_
   rintro r w12 ⟨rfl, f12⟩
   clear k0 k1 k2 k3
   obtain ⟨h7, hh7⟩ : ∃ k, k = w12.heap.size := ⟨_, rfl⟩
   have r5 := row_fresh H_r5.out f12
   have r6 := row_fresh H_r6.out f12
   clear H_r5 H_r6
   have aj0 := row_cell r6 0
   have aj1 := row_cell r6 1
   have aj2 := row_cell r6 2
   simp at aj0 aj1 aj2
   have b0 := fun o o' => cell_fresh aj0 (((Keep.refl (fun _ => False) w12).alloc o).alloc o')
   have b1 := fun o o' => cell_fresh aj1 (((Keep.refl (fun _ => False) w12).alloc o).alloc o')
   have b2 := fun o o' => cell_fresh aj2 (((Keep.refl (fun _ => False) w12).alloc o).alloc o')
   clear aj0 aj1 aj2
   have H_f12 := hid f12
   clear f12
   have H_hh7 := hid hh7
   clear hh7
   have H_r5 := hid r5
   clear r5
   have H_r6 := hid r6
   clear r6
   go_wp2_with (fail)
   clear b0 b1 b2
   generalize hw13 : (w12.alloc _).alloc _ = w13
   rw [← H_hh7.out]
   obtain ⟨r7, r8, f13⟩ := boxes2 w12 #[.string yq, .int .i64 ez] #[.string yr, .int .i64 er] 23 23 h7 H_hh7.out w13 hw13
   have r5 := row_fresh H_r5.out f13
   have r6 := row_fresh H_r6.out f13
   have f13 := fresh_trans H_f12.out f13
   have fa := fresh_trans H_fa.out f13
   have hs2 := H_hs2.out.fresh f13
   have hs1 := H_hs1.out.fresh f13
   clear H_r5 H_r6 H_fa H_hs2 H_hs1 H_f12 H_d1 H_d2
   have H_fa := hid fa
   clear fa
   have H_f13 := hid f13
   clear f13
   refine (H_hiz.out _ _ hs2).mono ?_
   rintro r w14 ⟨rfl, f14⟩
   have r5 := row_fresh r5 f14
   have r6 := row_fresh r6 f14
   have r7 := row_fresh r7 f14
   have r8 := row_fresh r8 f14
   have fa := fresh_trans H_fa.out f14
   have hs1 := hs1.fresh f14
   have hs2 := hs2.fresh f14
   clear H_fa
   have k2 := row_cell r5 0
   have k3 := row_cell r5 1
   have k4 := row_cell r5 2
   have k5 := row_cell r6 0
   have k6 := row_cell r6 1
   have k7 := row_cell r6 2
   simp at k2 k3 k4 k5 k6 k7
   have H_r5 := hid r5
   clear r5
   have H_r6 := hid r6
   clear r6
   have H_r7 := hid r7
   clear r7
   have H_fa := hid fa
   clear fa
   have H_f14 := hid f14
   clear f14
   have H_hs1 := hid hs1
   clear hs1
   have H_hs2 := hid hs2
   clear hs2
   have H_hw13 := hid hw13
   clear hw13
   have H_r8 := hid r8
   clear r8
   go_wp2_with (fail)
   refine (H_hdv.out _ _ _ H_hs1.out H_hs2.out).mono ?_
   rintro r w15 ⟨xw, rfl, hx, f15⟩
   clear k2 k3 k4 k5 k6 k7
   have H_f15 := hid f15
   clear f15
   have hrd := H_hrd.out _ _ hx
   clear hx
   have H_hrd1 := hid hrd
   clear hrd
   go_wp2_with (fail)
   refine H_hrd1.out.mono ?_
   rintro r w16 ⟨xr, rfl, hx, f16⟩
   have hfc := H_hfc.out _ _ hx
   clear hx
   have f16 := fresh_trans H_f15.out f16
   have H_f16 := hid f16
   clear f16
   have H_hfc1 := hid hfc
   clear hfc
   go_wp2_with (fail)
   refine H_hfc1.out.mono ?_
   rintro r w17 ⟨xf, rfl, hx, f17⟩
   have f17 := fresh_trans H_f16.out f17
   have hxf := hx
   obtain ⟨nc, vc, lc, dc, dlc, rfl, xc1, xc2, xc3, xc4, xc5, xc6⟩ := hx
   obtain ⟨ae, ce, rfl⟩ := xc1.form
   obtain ⟨af, cf, rfl⟩ := xc5.form
   clear xc1 xc2 xc3 xc4 xc5 xc6
   generalize lc.length = ln5 at *
   generalize dlc.length = ln6 at *
   clear lc dlc
   obtain ⟨h9, hh9⟩ : ∃ k, k = w17.heap.size := ⟨_, rfl⟩
   have H_f17 := hid f17
   clear f17
   have H_hxf := hid hxf
   clear hxf
   have H_hh9 := hid hh9
   clear hh9
   go_wp2_with (fail)
   generalize hw18 : w17.alloc _ = w18
   have f18 : Fresh w17 w18 := by rw [← hw18]; exact (Keep.refl _ _).alloc _
   have r9 : w18.heap[h9]? = some (.cells #[.bool nc, .slice ae ln5 ce, .slice af ln6 cf] 30 (0, 0)) := by rw [← hw18, H_hh9.out]; exact heap_alloc_new w17 _
   rw [← H_hh9.out]
   have hxf := H_hxf.out.fresh f18
   have f18 := fresh_trans H_f17.out f18
   have r5 := row_fresh H_r5.out f18
   have r6 := row_fresh H_r6.out f18
   have r7 := row_fresh H_r7.out f18
   have r8 := row_fresh H_r8.out f18
   have fa := fresh_trans H_fa.out f18
   have hs1 := H_hs1.out.fresh f18
   have hs2 := H_hs2.out.fresh f18
   clear H_r5 H_r6 H_r7 H_r8 H_fa H_hs1 H_hs2 H_hxf H_f15 H_f16 H_f17 H_hfc1 H_hrd1 f18
   have k0 := row_cell r7 0
   have k1 := row_cell r7 1
   have k8 := row_cell r8 0
   have k9 := row_cell r8 1
   have l0 := row_cell r9 0
   have l1 := row_cell r9 1
   have l2 := row_cell r9 2
   have k2 := row_cell r5 0
   have k3 := row_cell r5 1
   have k4 := row_cell r5 2
   have k5 := row_cell r6 0
   have k6 := row_cell r6 1
   have k7 := row_cell r6 2
   simp at k0 k1 k8 k9 l0 l1 l2 k2 k3 k4 k5 k6 k7
   have H_r5 := hid r5
   clear r5
   have H_r6 := hid r6
   clear r6
   have H_r7 := hid r7
   clear r7
   have H_r8 := hid r8
   clear r8
   have H_r9 := hid r9
   clear r9
   have H_fa := hid fa
   clear fa
   have H_hs1 := hid hs1
   clear hs1
   have H_hs2 := hid hs2
   clear hs2
   have H_hxf := hid hxf
   clear hxf
   have H_hw18 := hid hw18
   clear hw18
   go_wp2_with (fail)
   refine wp_region_E (S := (fun (w' : World) => w'.cell? ⟨h7, 0, none⟩ = some (.string yq) ∧ w'.cell? ⟨h7, 1, none⟩ = some (.int .i64 ez) ∧ w'.cell? ⟨h7 + 1, 0, none⟩ = some (.string yr) ∧ w'.cell? ⟨h7 + 1, 1, none⟩ = some (.int .i64 er) ∧ w'.cell? ⟨h9, 0, none⟩ = some (.bool nc) ∧ w'.cell? ⟨h9, 1, none⟩ = some (.slice ae ln5 ce) ∧ w'.cell? ⟨h9, 2, none⟩ = some (.slice af ln6 cf) ∧ w'.cell? ⟨h, 0, none⟩ = some (.bool na) ∧ w'.cell? ⟨h, 1, none⟩ = some (.slice aa ln1 ca) ∧ w'.cell? ⟨h, 2, none⟩ = some (.slice ac ln3 cc) ∧ w'.cell? ⟨h + 1, 0, none⟩ = some (.bool nb) ∧ w'.cell? ⟨h + 1, 1, none⟩ = some (.slice ab ln2 cb) ∧ w'.cell? ⟨h + 1, 2, none⟩ = some (.slice ad ln4 cd))) 16 (by kernel_rfl) (by exact ⟨k0, k1, k8, k9, l0, l1, l2, k2, k3, k4, k5, k6, k7⟩) (fun hHeld => ?_)
   refine wpAnyE_takeP (i := 0) (v := ?v0_1) rfl (by kernel_rfl) (fun _ _ _ h => h) ⟨by rfl, ?y0_1⟩ (by assumption) ?r0_1
   case y0_1 => (intro w; go_simp; try with_reducible rfl)
   try simp only [Act.put, yA, yB, yD, yE, yF]
   refine wpAnyE_takeP (i := 1) (v := .bool true) rfl (by kernel_rfl) (fun _ _ _ h => h) ⟨by rfl, ?y1_1⟩ (by assumption) ?r1_1
   case y1_1 => (intro w; go_simp)
   try simp only [Act.put, yA, yB, yC, yD, yE, yF]
   refine wpAnyE_takeP (i := 2) (v := .bool true) rfl (by kernel_rfl) (fun _ _ _ h => h) ⟨by rfl, ?y2_1⟩ (by assumption) ?r2_1
   case y2_1 => (intro w; go_simp)
   try simp only [Act.put, yA, yB, yC, yD, yE, yF]
   refine wpAnyE_takeL (i := 3) (c := 5) (v := ?v3_1) rfl (by kernel_rfl) (fun _ _ _ h => h) ⟨by rfl, ?y3_1⟩ (by assumption) ?r3_1
   case y3_1 => (intro w hSw; go_split_ands; go_simp; try with_reducible rfl)
   try simp only [Act.put, yA, yB, yC, yD, yE, yF]
   refine wpAnyE_takeL (i := 4) (c := 5) (v := ?v4_1) rfl (by kernel_rfl) (fun _ _ _ h => h) ⟨by rfl, ?y4_1⟩ (by assumption) ?r4_1
   case y4_1 => (intro w hSw; go_split_ands; go_simp; try with_reducible rfl)
   try simp only [Act.put, yA, yB, yC, yD, yE, yF]
   refine wpAnyE_one (i := 5) rfl (by kernel_rfl) (fun K hK => ?_)
   go_simp
   refine (H_hsq.out _ _ (H_hxf.out.fresh ?c1)).mono ?_; (case c1 => exact (Keep.refl _ _).drew); rintro r y_1 ⟨rfl, r⟩; have y := r.of_drew; have c1_k0 := cell_fresh k0 y; have c1_k1 := cell_fresh k1 y; have c1_k8 := cell_fresh k8 y; have c1_k9 := cell_fresh k9 y; have c1_l0 := cell_fresh l0 y; have c1_l1 := cell_fresh l1 y; have c1_l2 := cell_fresh l2 y; have c1_k2 := cell_fresh k2 y; have c1_k3 := cell_fresh k3 y; have c1_k4 := cell_fresh k4 y; have c1_k5 := cell_fresh k5 y; have c1_k6 := cell_fresh k6 y; have c1_k7 := cell_fresh k7 y; have H_y1 := hid y; clear y r
   go_wp2_with (fail)
   have hHeld1 : ((fun (w' : World) => w'.cell? ⟨h7, 0, none⟩ = some (.string yq) ∧ w'.cell? ⟨h7, 1, none⟩ = some (.int .i64 ez) ∧ w'.cell? ⟨h7 + 1, 0, none⟩ = some (.string yr) ∧ w'.cell? ⟨h7 + 1, 1, none⟩ = some (.int .i64 er) ∧ w'.cell? ⟨h9, 0, none⟩ = some (.bool nc) ∧ w'.cell? ⟨h9, 1, none⟩ = some (.slice ae ln5 ce) ∧ w'.cell? ⟨h9, 2, none⟩ = some (.slice af ln6 cf) ∧ w'.cell? ⟨h, 0, none⟩ = some (.bool na) ∧ w'.cell? ⟨h, 1, none⟩ = some (.slice aa ln1 ca) ∧ w'.cell? ⟨h, 2, none⟩ = some (.slice ac ln3 cc) ∧ w'.cell? ⟨h + 1, 0, none⟩ = some (.bool nb) ∧ w'.cell? ⟨h + 1, 1, none⟩ = some (.slice ab ln2 cb) ∧ w'.cell? ⟨h + 1, 2, none⟩ = some (.slice ad ln4 cd))) _ := ⟨c1_k0, c1_k1, c1_k8, c1_k9, c1_l0, c1_l1, c1_l2, c1_k2, c1_k3, c1_k4, c1_k5, c1_k6, c1_k7⟩
   refine hK.out _ _ (fun _ => hHeld1) ?_
   clear hK K
   try simp only [Act.put, yA, yB, yC, yD, yE, yF]
   refine wpAnyE_takeP (i := 6) (v := .bool true) rfl (by kernel_rfl) (fun _ _ _ h => h) ⟨by rfl, ?y6_1⟩ (by assumption) ?r6_1
   case y6_1 => (intro w; go_simp)
   try simp only [Act.put, yA, yB, yC, yD, yE, yF]
   refine wpAnyE_takeP (i := 7) (v := .bool true) rfl (by kernel_rfl) (fun _ _ _ h => h) ⟨by rfl, ?y7_1⟩ (by assumption) ?r7_1
   case y7_1 => (intro w; go_simp)
   try simp only [Act.put, yA, yB, yC, yD, yE, yF]
   refine wpAnyE_takeL (i := 8) (c := 14) (v := ?v8_1) rfl (by kernel_rfl) (fun _ _ _ h => h) ⟨by rfl, ?y8_1⟩ (by assumption) ?r8_1
   case y8_1 => (intro w hSw; go_split_ands; go_simp; try with_reducible rfl)
   try simp only [Act.put, yA, yB, yC, yD, yE, yF]
   refine wpAnyE_takeL (i := 9) (c := 13) (v := ?v9_1) rfl (by kernel_rfl) (fun _ _ _ h => h) ⟨by rfl, ?y9_1⟩ (by assumption) ?r9_1
   case y9_1 => (intro w hSw; go_split_ands; go_simp; try with_reducible rfl)
   try simp only [Act.put, yA, yB, yC, yD, yE, yF]
   refine wpAnyE_takeL (i := 10) (c := 12) (v := ?v10_1) rfl (by kernel_rfl) (fun _ _ _ h => h) ⟨by rfl, ?y10_1⟩ (by assumption) ?r10_1
   case y10_1 => (intro w hSw; go_split_ands; go_simp; try with_reducible rfl)
   try simp only [Act.put, yA, yB, yC, yD, yE, yF]
   refine wpAnyE_takeL (i := 11) (c := 12) (v := ?v11_1) rfl (by kernel_rfl) (fun _ _ _ h => h) ⟨by rfl, ?y11_1⟩ (by assumption) ?r11_1
   case y11_1 => (intro w hSw; go_split_ands; go_simp; try with_reducible rfl)
   try simp only [Act.put, yA, yB, yC, yD, yE, yF]
   refine wpAnyE_one (i := 12) rfl (by kernel_rfl) (fun K hK => ?_)
   go_simp
   refine (H_hml.out _ _ _ (H_hs2.out.fresh H_y1.out) (H_hxf.out.fresh H_y1.out)).mono ?_; rintro r y_2 ⟨xw4, rfl, hx, r⟩; have y := r; have c2_k0 := cell_fresh c1_k0 y; have c2_k1 := cell_fresh c1_k1 y; have c2_k8 := cell_fresh c1_k8 y; have c2_k9 := cell_fresh c1_k9 y; have c2_l0 := cell_fresh c1_l0 y; have c2_l1 := cell_fresh c1_l1 y; have c2_l2 := cell_fresh c1_l2 y; have c2_k2 := cell_fresh c1_k2 y; have c2_k3 := cell_fresh c1_k3 y; have c2_k4 := cell_fresh c1_k4 y; have c2_k5 := cell_fresh c1_k5 y; have c2_k6 := cell_fresh c1_k6 y; have c2_k7 := cell_fresh c1_k7 y; have H_y2 := hid (fresh_trans H_y1.out y); have H_x4 := hid hx; clear hx; clear y r
   go_wp2_with (fail)
   have hHeld2 : ((fun (w' : World) => w'.cell? ⟨h7, 0, none⟩ = some (.string yq) ∧ w'.cell? ⟨h7, 1, none⟩ = some (.int .i64 ez) ∧ w'.cell? ⟨h7 + 1, 0, none⟩ = some (.string yr) ∧ w'.cell? ⟨h7 + 1, 1, none⟩ = some (.int .i64 er) ∧ w'.cell? ⟨h9, 0, none⟩ = some (.bool nc) ∧ w'.cell? ⟨h9, 1, none⟩ = some (.slice ae ln5 ce) ∧ w'.cell? ⟨h9, 2, none⟩ = some (.slice af ln6 cf) ∧ w'.cell? ⟨h, 0, none⟩ = some (.bool na) ∧ w'.cell? ⟨h, 1, none⟩ = some (.slice aa ln1 ca) ∧ w'.cell? ⟨h, 2, none⟩ = some (.slice ac ln3 cc) ∧ w'.cell? ⟨h + 1, 0, none⟩ = some (.bool nb) ∧ w'.cell? ⟨h + 1, 1, none⟩ = some (.slice ab ln2 cb) ∧ w'.cell? ⟨h + 1, 2, none⟩ = some (.slice ad ln4 cd))) _ := ⟨c2_k0, c2_k1, c2_k8, c2_k9, c2_l0, c2_l1, c2_l2, c2_k2, c2_k3, c2_k4, c2_k5, c2_k6, c2_k7⟩
   refine hK.out _ _ (fun _ => hHeld2) ?_
   clear hK K
   try simp only [Act.put, yA, yB, yC, yD, yE, yF]
   refine wpAnyE_one (i := 13) rfl (by kernel_rfl) (fun K hK => ?_)
   go_simp
   refine (H_hsb.out _ _ _ (H_hs1.out.fresh H_y2.out) H_x4.out).mono ?_; rintro r y_3 ⟨xw5, rfl, hx, r⟩; have y := r; have c3_k0 := cell_fresh c2_k0 y; have c3_k1 := cell_fresh c2_k1 y; have c3_k8 := cell_fresh c2_k8 y; have c3_k9 := cell_fresh c2_k9 y; have c3_l0 := cell_fresh c2_l0 y; have c3_l1 := cell_fresh c2_l1 y; have c3_l2 := cell_fresh c2_l2 y; have c3_k2 := cell_fresh c2_k2 y; have c3_k3 := cell_fresh c2_k3 y; have c3_k4 := cell_fresh c2_k4 y; have c3_k5 := cell_fresh c2_k5 y; have c3_k6 := cell_fresh c2_k6 y; have c3_k7 := cell_fresh c2_k7 y; have H_y3 := hid (fresh_trans H_y2.out y); have H_x5 := hid hx; clear hx; clear y r
   go_wp2_with (fail)
   have hHeld3 : ((fun (w' : World) => w'.cell? ⟨h7, 0, none⟩ = some (.string yq) ∧ w'.cell? ⟨h7, 1, none⟩ = some (.int .i64 ez) ∧ w'.cell? ⟨h7 + 1, 0, none⟩ = some (.string yr) ∧ w'.cell? ⟨h7 + 1, 1, none⟩ = some (.int .i64 er) ∧ w'.cell? ⟨h9, 0, none⟩ = some (.bool nc) ∧ w'.cell? ⟨h9, 1, none⟩ = some (.slice ae ln5 ce) ∧ w'.cell? ⟨h9, 2, none⟩ = some (.slice af ln6 cf) ∧ w'.cell? ⟨h, 0, none⟩ = some (.bool na) ∧ w'.cell? ⟨h, 1, none⟩ = some (.slice aa ln1 ca) ∧ w'.cell? ⟨h, 2, none⟩ = some (.slice ac ln3 cc) ∧ w'.cell? ⟨h + 1, 0, none⟩ = some (.bool nb) ∧ w'.cell? ⟨h + 1, 1, none⟩ = some (.slice ab ln2 cb) ∧ w'.cell? ⟨h + 1, 2, none⟩ = some (.slice ad ln4 cd))) _ := ⟨c3_k0, c3_k1, c3_k8, c3_k9, c3_l0, c3_l1, c3_l2, c3_k2, c3_k3, c3_k4, c3_k5, c3_k6, c3_k7⟩
   refine hK.out _ _ (fun _ => hHeld3) ?_
   clear hK K
   try simp only [Act.put, yA, yB, yC, yD, yE, yF]
   refine wpAnyE_one (i := 14) rfl (by kernel_rfl) (fun K hK => ?_)
   go_simp
   refine (H_hsy.out _ _ H_x5.out).mono ?_; rintro r y_4 ⟨rfl, r⟩; have y := r; have c4_k0 := cell_fresh c3_k0 y; have c4_k1 := cell_fresh c3_k1 y; have c4_k8 := cell_fresh c3_k8 y; have c4_k9 := cell_fresh c3_k9 y; have c4_l0 := cell_fresh c3_l0 y; have c4_l1 := cell_fresh c3_l1 y; have c4_l2 := cell_fresh c3_l2 y; have c4_k2 := cell_fresh c3_k2 y; have c4_k3 := cell_fresh c3_k3 y; have c4_k4 := cell_fresh c3_k4 y; have c4_k5 := cell_fresh c3_k5 y; have c4_k6 := cell_fresh c3_k6 y; have c4_k7 := cell_fresh c3_k7 y; have H_y4 := hid (fresh_trans H_y3.out y); clear y r
   go_wp2_with (fail)
   have hHeld4 : ((fun (w' : World) => w'.cell? ⟨h7, 0, none⟩ = some (.string yq) ∧ w'.cell? ⟨h7, 1, none⟩ = some (.int .i64 ez) ∧ w'.cell? ⟨h7 + 1, 0, none⟩ = some (.string yr) ∧ w'.cell? ⟨h7 + 1, 1, none⟩ = some (.int .i64 er) ∧ w'.cell? ⟨h9, 0, none⟩ = some (.bool nc) ∧ w'.cell? ⟨h9, 1, none⟩ = some (.slice ae ln5 ce) ∧ w'.cell? ⟨h9, 2, none⟩ = some (.slice af ln6 cf) ∧ w'.cell? ⟨h, 0, none⟩ = some (.bool na) ∧ w'.cell? ⟨h, 1, none⟩ = some (.slice aa ln1 ca) ∧ w'.cell? ⟨h, 2, none⟩ = some (.slice ac ln3 cc) ∧ w'.cell? ⟨h + 1, 0, none⟩ = some (.bool nb) ∧ w'.cell? ⟨h + 1, 1, none⟩ = some (.slice ab ln2 cb) ∧ w'.cell? ⟨h + 1, 2, none⟩ = some (.slice ad ln4 cd))) _ := ⟨c4_k0, c4_k1, c4_k8, c4_k9, c4_l0, c4_l1, c4_l2, c4_k2, c4_k3, c4_k4, c4_k5, c4_k6, c4_k7⟩
   refine hK.out _ _ (fun _ => hHeld4) ?_
   clear hK K
   try simp only [Act.put, yA, yB, yC, yD, yE, yF]
   refine wpAnyE_takeP (i := 15) (v := .bool true) rfl (by kernel_rfl) (fun _ _ _ h => h) ⟨by rfl, ?y15_1⟩ (by assumption) ?r15_1
   case y15_1 => (intro w; go_simp)
   try simp only [Act.put, yA, yB, yC, yD, yE, yF]
   refine wpAnyE_one (i := 16) rfl (by kernel_rfl) (fun K hK => ?_)
   go_simp
   refine hK.out _ _ (fun h => Bool.noConfusion (show true = false from h)) ?_
   clear hK K
   try simp only [Act.put, yA, yB, yC, yD, yE, yF]
   refine wpAnyE_done (by kernel_rfl) ?_ _
   go_wp2_with (fail)
   go_ret
   exact ⟨rfl, fresh_trans H_fa.out H_y4.out⟩

end Go.Proofs.YtllencgncinphaaGreatDoor
