/- Int.Set of signed integers; the thin package: made, dec. -/
import Derived.Laws.FloatArith
import Derived.Laws.Externs
import Derived.Laws.Cover2
import Derived.Test.YtllencgncinphaaGreatDoorKE1
import Derived.Test.YtllencgncinphaaGreatDoorKE8
import Derived.Test.YtllencgncinphaaGreatDoorKE9
import Derived.Test.YtllencgncinphaaGreatDoorKE19
import Derived.Test.YtllencgncinphaaGreatDoorKE32
import Derived.Test.YtllencgncinphaaGreatDoorKE36
namespace Go.Proofs.YtllencgncinphaaGreatDoor
open Go.RowKit Ieee
open Go.Lib (hid)
set_option maxRecDepth 20000
set_option maxHeartbeats 2000000

theorem Set_z0 (bz bx : Nat) (negz negx : Bool) (vz vx : Value) (lz lx : List Nat) (w : World) (hlx : lx.length ≤ 1000000) (hne : bz ≠ bx)
 (hz : IntIs w bz 0 negz vz lz) (hx : IntIs w bx 0 negx vx lx) (hs : Sep vz vx) :
 Calls Tryz.prog 134 #[.pointer (some ⟨bz, 0, none⟩), .pointer (some ⟨bx, 0, none⟩)] w (IntRet w bz 0 vz (ival negx lx)) := by
 have hc := set_any vz vx lz lx w.drew hlx hz.nat.drew hx.nat.drew hs
 have hneq : (binOp .neq 59 (.pointer (some ⟨bz, 0, none⟩)) (.pointer (some ⟨bx, 0, none⟩))).run Tryz.prog w = .ok (.bool true) w := StrAt.neq_ne hz.str hx.str hne Tryz.underlying59 (by kernel_rfl)
 have cz1 := hz.str.c1
 have cx1 := hx.str.c1
 rw [Nat.zero_add] at cz1 cx1
 have nz : ¬ (vz.ownBlock = some bz) := fun e => IntIs.ne hz.str hz.nat e rfl
 have nx : ¬ (vz.ownBlock = some bx) := fun e => IntIs.ne hx.str hz.nat e rfl
 have H_hc := hid hc; have H_hz := hid hz; have H_hx := hid hx; have H_nz := hid nz; have H_nx := hid nx; have H_hs := hid hs; clear hc hz hx nz nx hs
 go_enter Tryz.func134, Tryz.ntmps134
 go_wp2_with (fail)
 clear hneq
 refine rgE (S := (fun (w' : World) => w'.cell? ⟨bz, 1, none⟩ = some vz ∧ w'.cell? ⟨bx, 1, none⟩ = some vx)) 12 (by kernel_rfl) (by exact ⟨cz1, cx1⟩) (fun hHeld => ?_)
 refine tkP (i := 0) (v := ?v0_1) rfl (by kernel_rfl) (fun _ _ _ h => h) ⟨by rfl, ?y0_1⟩ (by assumption) ?r0_1
 case y0_1 => (intro w; go_simp; try with_reducible rfl)
 try simp only [Act.put, yA, yB, yD, yE, yF]
 refine tkP (i := 1) (v := ?v1_1) rfl (by kernel_rfl) (fun _ _ _ h => h) ⟨by rfl, ?y1_1⟩ (by assumption) ?r1_1
 case y1_1 => (intro w; go_simp; try with_reducible rfl)
 try simp only [Act.put, yA, yB, yC, yD, yE, yF]
 refine tkP (i := 2) (v := ?v2_1) rfl (by kernel_rfl) (fun _ _ _ h => h) ⟨by rfl, ?y2_1⟩ (by assumption) ?r2_1
 case y2_1 => (intro w; go_simp; try with_reducible rfl)
 try simp only [Act.put, yA, yB, yC, yD, yE, yF]
 refine tkP (i := 3) (v := ?v3_1) rfl (by kernel_rfl) (fun _ _ _ h => h) ⟨by rfl, ?y3_1⟩ (by assumption) ?r3_1
 case y3_1 => (intro w; go_simp; try with_reducible rfl)
 try simp only [Act.put, yA, yB, yC, yD, yE, yF]
 refine tkL (i := 4) (c := 9) (v := ?v4_1) rfl (by kernel_rfl) (fun _ _ _ h => h) ⟨by rfl, ?y4_1⟩ (by assumption) ?r4_1
 case y4_1 => (intro w hSw; go_split_ands; go_simp; try with_reducible rfl)
 try simp only [Act.put, yA, yB, yC, yD, yE, yF]
 refine tkP (i := 5) (v := ?v5_1) rfl (by kernel_rfl) (fun _ _ _ h => h) ⟨by rfl, ?y5_1⟩ (by assumption) ?r5_1
 case y5_1 => (intro w; go_simp; try with_reducible rfl)
 try simp only [Act.put, yA, yB, yC, yD, yE, yF]
 refine tkP (i := 6) (v := ?v6_1) rfl (by kernel_rfl) (fun _ _ _ h => h) ⟨by rfl, ?y6_1⟩ (by assumption) ?r6_1
 case y6_1 => (intro w; go_simp; try with_reducible rfl)
 try simp only [Act.put, yA, yB, yC, yD, yE, yF]
 refine tkP (i := 7) (v := ?v7_1) rfl (by kernel_rfl) (fun _ _ _ h => h) ⟨by rfl, ?y7_1⟩ (by assumption) ?r7_1
 case y7_1 => (intro w; go_simp; try with_reducible rfl)
 try simp only [Act.put, yA, yB, yC, yD, yE, yF]
 refine tkL (i := 8) (c := 9) (v := ?v8_1) rfl (by kernel_rfl) (fun _ _ _ h => h) ⟨by rfl, ?y8_1⟩ (by assumption) ?r8_1
 case y8_1 => (intro w hSw; go_split_ands; go_simp; try with_reducible rfl)
 try simp only [Act.put, yA, yB, yC, yD, yE, yF]
 refine tkO (i := 9) rfl (by kernel_rfl) (fun K hK => ?_)
 go_simp
 refine H_hc.out.mono ?_; rintro e w1 ⟨rv, rfl, hop⟩; have hop := hop.of_drew; obtain ⟨ra, rc, rfl⟩ := hop.nat.form; have kz := (H_hz.out.str.keep hop.keep H_nz.out).c1; have kx := (H_hx.out.str.keep hop.keep H_nx.out).c1; have kf := (H_hz.out.str.keep hop.keep H_nz.out).f1; have kx0 := (H_hx.out.str.keep hop.keep H_nx.out).c0; have kf0 := (H_hz.out.str.keep hop.keep H_nz.out).f0; have kz0 := (H_hz.out.str.keep hop.keep H_nz.out).c0; rw [Nat.zero_add] at kz kx kf; have H_hop := hid hop; clear hop
 go_wp2_with (fail)
 have hHeldB : ((fun (w' : World) => w'.cell? ⟨bz, 1, none⟩ = some vz ∧ w'.cell? ⟨bx, 1, none⟩ = some vx)) _ := ⟨kz, kx⟩
 refine hK.out _ _ (fun _ => hHeldB) ?_
 clear hK K
 try simp only [Act.put, yA, yB, yC, yD, yE, yF]
 refine tkP (i := 10) (v := ?v10_1) rfl (by kernel_rfl) (fun _ _ _ h => h) ⟨by rfl, ?y10_1⟩ (by assumption) ?r10_1
 case y10_1 => (intro w; go_simp; try with_reducible rfl)
 try simp only [Act.put, yA, yB, yC, yD, yE, yF]
 refine tkP (i := 11) (v := ?v11_1) rfl (by kernel_rfl) (fun _ _ _ h => h) ⟨by rfl, ?y11_1⟩ (by assumption) ?r11_1
 case y11_1 => (intro w; go_simp; try with_reducible rfl)
 try simp only [Act.put, yA, yB, yC, yD, yE, yF]
 refine tkO (i := 12) rfl (by kernel_rfl) (fun K hK => ?_)
 go_simp
 refine hK.out _ _ (fun h => Bool.noConfusion (show true = false from h)) ?_
 clear hK K
 try simp only [Act.put, yA, yB, yC, yD, yE, yF]
 refine tkD (by kernel_rfl) ?_ _
 clear hHeldB
 have kx0' : (w1.setCell ⟨bz, 1, none⟩ (.slice ra lx.length rc)).cell? ⟨bx, 0, none⟩ = some (.bool negx) := (cell?_setCell_ne (.inr (by simp))).trans kx0
 have kz0' : (w1.setCell ⟨bz, 1, none⟩ (.slice ra lx.length rc)).cell? ⟨bz, 0, none⟩ = some (.bool negz) := (cell?_setCell_ne (.inr (by simp))).trans kz0
 have kf0' : (w1.setCell ⟨bz, 1, none⟩ (.slice ra lx.length rc)).frozen? ⟨bz, 0, none⟩ = false := (frozen?_setCell' _ _ _ _).trans kf0
 clear cz1 cx1 kz kx kf kx0 kf0 kz0
 go_wp2_with (fail)
 go_ret
 exact ⟨rfl, IntIs.made H_hz.out.str H_hz.out.nat H_hop.out H_hx.out.norm negx H_hx.out.zero (ival negx lx) rfl rfl⟩

theorem IntSet_z (bz bx : Nat) (vz vx : Value) (z x : Int) (w : World) (hlx : x.natAbs < wpow 39) (hne : bz ≠ bx) (hz : ZI w bz vz z) (hx : ZI w bx vx x) (hs : Sep vz vx) :
 Calls Tryz.prog 134 #[.pointer (some ⟨bz, 0, none⟩), .pointer (some ⟨bx, 0, none⟩)] w (fun e w' => e = .returned (.pointer (some ⟨bz, 0, none⟩)) ∧ ZSet w bz vz x w') := by
 obtain ⟨nz, lz, hz, _⟩ := hz
 obtain ⟨nx, lx, hx, rfl⟩ := hx
 have h1 := hx.len rfl hlx
 exact (Set_z0 bz bx nz nx vz vx lz lx w (by omega) hne hz hx hs).mono fun _ _ h => h.zset

theorem made_any (z e : Int) (w : World) (hz : (wdig z).length ≤ 300) (he : -400 ≤ e ∧ e ≤ 400) (hNG : NG ≤ w.heap.size) :
 Calls Tryz.prog 42 #[.agg #[.string (bstr (wdig z)), .int .i64 e]] w (fun r w' => ∃ b v, r = .returned (.tuple #[sd b e, .bool true]) ∧ ZI w' b v z ∧ w.heap.size ≤ b ∧ (∀ k, v.ownBlock = some k → w.heap.size ≤ k) ∧ Fresh w w') := by
 have hw := fun W (hW : Fresh w W) => whole_any z W hz (Nat.le_trans hNG hW.size)
 have hpl := fun W => places_any e W he
 have hmk := fun b W => ZzMake_any b e W
 have hwr : IntKind.i32.wrap e = e := by rw [IntKind.wrap_i32]; omega
 obtain ⟨g, hg⟩ : ∃ g, g = w.heap.size := ⟨_, rfl⟩
 generalize bstr (wdig z) = s at *
 have bx := boxes2 w #[.string s, .int .i64 e] #[.pointer none, .int .i32 0] 23 61 g hg
 have H_bx := hid bx; have H_hw := hid hw; have H_hpl := hid hpl; have H_hmk := hid hmk; have H_hz := hid hz; have H_hNG := hid hNG; clear bx hw hpl hmk hz hNG
 go_enter Tryz.func42, Tryz.ntmps42
 go_wp2_with (fail)
 generalize hw1 : (w.alloc _).alloc _ = w1
 rw [← hg]
 obtain ⟨b1, b2, hf⟩ := H_bx.out w1 hw1
 have k0 := rwc b1 0
 have k1 := rwc b1 1
 simp at k0 k1
 have H_b1 := hid b1; have H_b2 := hid b2; have H_hf := hid hf; have H_hw1 := hid hw1; have H_hg := hid hg; clear b1 b2 hf hw1 hg
 go_wp2_with (fail)
 refine (H_hw.out _ H_hf.out).mono ?_
 rintro r w2 ⟨b, v, rfl, z2, g2, o2, f2⟩
 have d1 := rfr H_b1.out f2
 clear k0 k1
 have k0 := rwc d1 0
 have k1 := rwc d1 1
 simp at k0 k1
 have H_z2 := hid z2; have H_g2 := hid g2; have H_o2 := hid o2; have H_f2 := hid f2; have H_d1 := hid d1; clear z2 g2 o2 f2 d1
 go_wp2_with (fail)
 refine (H_hpl.out _).mono ?_
 rintro r w3 ⟨rfl, hw3⟩
 obtain rfl : w2 = w3 := hw3.symm
 go_wp2_with (fail)
 refine (H_hmk.out b _).mono ?_
 rintro r w4 ⟨rfl, f4⟩
 have d2 := rfr H_b2.out (ftr H_f2.out f4)
 have p0 := rwc d2 0
 have p1 := rwc d2 1
 simp at p0 p1
 have q0 : w4.frozen? ⟨g + 1, 0, none⟩ = false := frozen_of_row _ _ _ _ _ d2
 have q1 : w4.frozen? ⟨g + 1, 1, none⟩ = false := frozen_of_row _ _ _ _ _ d2
 have H_f4 := hid f4; have H_d2 := hid d2; clear f4 d2
 go_wp2_with (fail)
 refine bodyPost_ret (results_cell_tmp_row rfl _ _ (g + 1) 61 #[.pointer (some ⟨b, 0, none⟩), .int .i32 e] (0, 0) _ rfl (rst (rst H_d2.out)) Tryz.underlying61 rfl (by kernel_rfl)) rfl ?_
 have hgw := H_hg.out
 have h1s := H_hf.out.size
 have hlt2 := lt_of_row H_b2.out
 have kk : ∀ u u', Keep (fun k => k = g + 1) w4 ((w4.setCell ⟨g + 1, 0, none⟩ u).setCell ⟨g + 1, 1, none⟩ u') := fun u u' => ((Keep.refl (fun k => k = g + 1) w4).setCell (p := ⟨g + 1, 0, none⟩) (fun _ => rfl) u).setCell (p := ⟨g + 1, 1, none⟩) (fun _ => rfl) u'
 exact ⟨b, v, rfl, (H_z2.out.fresh H_f4.out).keep (kk _ _) (fun h => by have := H_g2.out; omega) (fun k hk h => by have := H_o2.out k hk; omega), Nat.le_trans h1s H_g2.out, fun k hk => Nat.le_trans h1s (H_o2.out k hk),
  ((ftr H_hf.out (ftr H_f2.out H_f4.out)).setCell (p := ⟨g + 1, 0, none⟩) (fun h => by change g + 1 < w.heap.size at h; omega) _).setCell (p := ⟨g + 1, 1, none⟩) (fun h => by change g + 1 < w.heap.size at h; omega) _⟩

theorem dec_any (b : Nat) (v : Value) (z e : Int) (p : Nat) (w : World) (he : -2147483648 ≤ e ∧ e ≤ 2147483647) (hx : ZI w b v z) (hp : p ≤ 600) (hz : z.natAbs < 10 ^ p) :
 Calls Tryz.prog 44 #[sd b e] w (fun r w' => r = .returned (.agg #[.string (bstr (wdig z)), .int .i64 e]) ∧ Fresh w w') := by
 have hdg := fun W (hW : Fresh w W) => digits_any b v z p W (hx.fresh hW) hp hz
 have hzv := fun W => ZzValue_any b e W
 have hex := fun W => Exponent_any b e W
 have hwr : IntKind.i64.wrap e = e := by rw [IntKind.wrap_i64]; omega
 obtain ⟨g, hg⟩ : ∃ g, g = w.heap.size := ⟨_, rfl⟩
 generalize bstr (wdig z) = s at *
 have bx := boxes2 w #[.pointer (some ⟨b, 0, none⟩), .int .i32 e] #[.string ⟨#[]⟩, .int .i64 0] 61 23 g hg
 have H_bx := hid bx; have H_hdg := hid hdg; have H_hzv := hid hzv; have H_hex := hid hex; have H_hx := hid hx; have H_hz := hid hz; have H_he := hid he; clear bx hdg hzv hex hx hz he
 go_enter Tryz.func44, Tryz.ntmps44
 go_wp2_with (fail)
 generalize hw1 : (w.alloc _).alloc _ = w1
 rw [← hg]
 obtain ⟨b1, b2, hf⟩ := H_bx.out w1 hw1
 have k0 := rwc b1 0
 have k1 := rwc b1 1
 simp at k0 k1
 have H_b1 := hid b1; have H_b2 := hid b2; have H_hf := hid hf; have H_hw1 := hid hw1; have H_hg := hid hg; clear b1 b2 hf hw1 hg
 go_region_held3 (fun (w' : World) => w'.cell? ⟨g, 0, none⟩ = some (.pointer (some ⟨b, 0, none⟩)) ∧ w'.cell? ⟨g, 1, none⟩ = some (.int .i32 e)) (first | exact ⟨k0, k1⟩ | exact ⟨m0, m1⟩ | exact ⟨n0, n1⟩ | exact ⟨o0, o1⟩ | exact ⟨(cell?_setCell_ne (.inl (by simp))).trans ((cell?_setCell_ne (.inl (by simp))).trans o0), (cell?_setCell_ne (.inl (by simp))).trans ((cell?_setCell_ne (.inl (by simp))).trans o1)⟩) (first
  | (go_at_call 94; (with_reducible refine (H_hzv.out _).mono ?_); rintro r w2 ⟨rfl, y⟩; have hf2 : Fresh w1 w2 := (by first | exact y | exact y.of_drew | exact y.of_drewN); have m0 := cfr k0 hf2; have m1 := cfr k1 hf2; have H_hf2 := hid hf2; clear y hf2)
  | (go_at_call 93; (with_reducible refine (H_hdg.out _ (ftr H_hf.out H_hf2.out)).mono ?_); rintro r w3 ⟨rfl, y⟩; have n0 := cfr m0 y; have n1 := cfr m1 y; have hf3 := ftr H_hf2.out y; have H_hf3 := hid hf3; clear y hf3)
  | (go_at_call 95; (with_reducible refine (H_hex.out _).mono ?_); rintro r w4 ⟨rfl, y⟩; have o0 := cfr n0 y; have o1 := cfr n1 y; have hf4 := ftr H_hf3.out y; have b3 := rfr H_b2.out hf4; have p0 := rwc b3 0; have p1 := rwc b3 1; simp at p0 p1; have q0 : w4.frozen? ⟨g + 1, 0, none⟩ = false := frozen_of_row _ _ _ _ _ b3; have q1 : w4.frozen? ⟨g + 1, 1, none⟩ = false := frozen_of_row _ _ _ _ _ b3; have H_hf4 := hid hf4; have H_b3 := hid b3; clear y hf4 b3))
 go_wp2
 refine bodyPost_ret (results_cell_row rfl _ _ (g + 1) 23 #[.string s, .int .i64 e] (0, 0) _ rfl (rst (rst H_b3.out)) Tryz.underlying23 rfl (by kernel_rfl)) rfl ?_
 have hgw := H_hg.out
 exact ⟨rfl, ((ftr H_hf.out H_hf4.out).setCell (p := ⟨g + 1, 0, none⟩) (fun h => by change g + 1 < w.heap.size at h; omega) _).setCell (p := ⟨g + 1, 1, none⟩) (fun h => by change g + 1 < w.heap.size at h; omega) _⟩









theorem ten_posI (n : Nat) : (0 : Int) < ((10 ^ n : Nat) : Int) := by
 have : 0 < 10 ^ n := Nat.pow_pos (by omega)
 exact_mod_cast this

end Go.Proofs.YtllencgncinphaaGreatDoor
