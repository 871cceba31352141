/- shopspring: quoRem of two decimals, with a divisor that is handed on or not. Printed by gen_qm.py. -/
import Derived.Test.YtllencgncinphaaGreatDoorKE13
import Derived.Test.YtllencgncinphaaGreatDoorKE19
import Derived.Test.YtllencgncinphaaGreatDoorKE33
import Derived.Test.YtllencgncinphaaGreatDoorKE40
namespace Go.Proofs.YtllencgncinphaaGreatDoor
open Go.RowKit
open Go.Lib (hid)
set_option maxRecDepth 20000
set_option maxHeartbeats 8000000

theorem rkp {S : Nat → Prop} {w w' : World} {g : Nat} {o : Obj} (h : w.heap[g]? = some o) (hk : Keep S w w') (hs : ¬ S g) : w'.heap[g]? = some o := (hk.block g (lt_of_row h) hs).trans h

theorem IntQuoRem_z (bz bx bY br : Nat) (vx vy : Value) (x y : Int) (w : World) (hG : Glob w) (hlx : x.natAbs < wpow 39) (hly : y.natAbs < wpow 39) (hy0 : y ≠ 0)
 (d1 : bz ≠ br) (d2 : bx ≠ bz) (d3 : bx ≠ br) (d4 : bY ≠ bz) (d5 : bY ≠ br) (hz : ZI w bz (.slice none 0 0) 0) (hx : ZI w bx vx x) (hy : ZI w bY vy y) (hr : ZI w br (.slice none 0 0) 0) :
 Calls Tryz.prog 130 #[.pointer (some ⟨bz, 0, none⟩), .pointer (some ⟨bx, 0, none⟩), .pointer (some ⟨bY, 0, none⟩), .pointer (some ⟨br, 0, none⟩)] w
  (fun e w' => e = .returned (.tuple #[.pointer (some ⟨bz, 0, none⟩), .pointer (some ⟨br, 0, none⟩)]) ∧ ∃ v u, ZI w' bz v (x.tdiv y) ∧ ZI w' br u (x.tmod y) ∧ Keep (fun k => k = bz ∨ k = br) w w' ∧
   (∀ k, v.ownBlock = some k → w.heap.size ≤ k) ∧ (∀ k, u.ownBlock = some k → w.heap.size ≤ k) ∧ (∀ k, v.ownBlock = some k → u.ownBlock ≠ some k)) := by
 obtain ⟨nz, lz, hz, _⟩ := hz
 obtain ⟨nx, lx, hx, rfl⟩ := hx
 obtain ⟨ny, ly, hy, rfl⟩ := hy
 obtain ⟨nr, lr, hr, _⟩ := hr
 have h1 := hx.len rfl hlx
 have h2 := hy.len rfl hly
 have h3 : 0 < ly.length := by
  rcases Nat.eq_zero_or_pos ly.length with h | h
  · rw [List.eq_nil_of_length_eq_zero h] at hy0
    exact absurd (by cases ny <;> rfl) hy0
  · exact h
 refine (Int_QuoRem bz bx bY br nz nx ny nr (.slice none 0 0) vx vy (.slice none 0 0) lz lx ly lr w hG (by omega) h2 h3 d1 d2 d3 d4 d5 hz hx hy hr (Sep.nil _) (fun _ h => by simp [Value.ownBlock] at h) (fun _ h => by simp [Value.ownBlock] at h) (fun _ h => by simp [Value.ownBlock] at h)).mono ?_
 rintro e w' ⟨rfl, v, u, k1, k2, k3, k4, k5, k6⟩
 refine ⟨rfl, v, u, k1, k2, k3.mono (fun k _ h => ?_), fun k hk => ?_, fun k hk => ?_, k6⟩
 · rcases h with h | h | h | h
   · exact .inl h
   · exact .inr h
   · simp [Value.ownBlock] at h
   · simp [Value.ownBlock] at h
 · rcases k4 k hk with h | h
   · simp [Value.ownBlock] at h
   · exact h
 · rcases k5 k hk with h | h
   · simp [Value.ownBlock] at h
   · exact h

theorem ZI.copy {w w' : World} {b a n : Nat} {s : Bool} {l : List Nat} {x : Option Addr} {c : Nat} {va : Value} {z za : Int} (hl : l.length = n) (hx : IntIs w b 0 s (.slice x l.length c) l) (hz : ival s l = z) (ha : ZI w a va za)
 (hw : w' = (w.setCell ⟨a, 0, none⟩ (.bool s)).setCell ⟨a, 1, none⟩ (.slice x n c)) : ZI w' a (.slice x n c) z := by
 subst hl hw
 obtain ⟨n1, l1, ha, -⟩ := ha
 have hne : ∀ g, (Value.slice x l.length c).ownBlock = some g → a ≠ g := fun g hg => IntIs.ne ha.str hx.nat hg
 have hs := (ha.str.set0 s).set1 (.slice x l.length c)
 rw [Nat.zero_add] at hs
 exact ⟨s, l, ⟨hs, setCell_natAt (setCell_natAt hx.nat hne _) hne _, hx.norm, hx.zero⟩, hz⟩

theorem ten_mul_lt {z : Int} {n : Nat} (hz : z.natAbs < wpow 10) (hn : n ≤ 255) : (z * ((10 ^ n : Nat) : Int)).natAbs < wpow 39 := by
 rw [Int.natAbs_mul, Int.natAbs_natCast]
 have h1 := pow10_words14 hn
 have h2 : wpow 10 * wpow 14 ≤ wpow 39 := by rw [← wpow_add]; exact wpow_mono (by omega)
 refine Nat.lt_of_lt_of_le ?_ h2
 exact Nat.mul_lt_mul_of_lt_of_le hz (Nat.le_of_lt h1) (wpow_pos _)

theorem wpow_10_39 {z : Int} (h : z.natAbs < wpow 10) : z.natAbs < wpow 39 := Nat.lt_of_lt_of_le h (wpow_mono (by omega))

theorem quoRem_blt (b1 b2 bb : Nat) (v1 v2 : Value) (z1 e1 z2 e2 p s er : Int) (E : Int) (n : Nat) (hn : (n : Int) = -E) (w : World) (hG : Glob w) (hz1 : z1.natAbs < wpow 10) (hz2 : z2.natAbs < wpow 10) (h0 : z2 ≠ 0) (hx1 : ZI w b1 v1 z1) (hx2 : ZI w b2 v2 z2)
 (he1 : -400 ≤ e1 ∧ e1 ≤ 400) (he2 : -400 ≤ e2 ∧ e2 ≤ 400) (hp : -400 ≤ p ∧ p ≤ 400) (hs : s = -p) (hE : E = e1 - e2 - s) (hl1 : -255 ≤ E) (hl2 : E < 0) (her : er = e1) (hbb : ZI w bb (.slice none 0 0) 0) (hn1 : b1 ≠ bb) (hn2 : b2 ≠ bb) :
 Calls Tryz.prog 106 #[sd b1 e1, sd b2 e2, .int .i32 p, .pointer (some ⟨bb, 0, none⟩)] w (fun r w' => ∃ bq vq br vr vb, r = .returned (.tuple #[sd bq s, sd br er]) ∧ ZI w' bq vq (z1.tdiv (z2 * ((10 ^ n : Nat) : Int))) ∧ ZI w' br vr (z1.tmod (z2 * ((10 ^ n : Nat) : Int))) ∧ ZI w' bb vb (z2 * ((10 ^ n : Nat) : Int)) ∧ w.heap.size ≤ bq ∧ w.heap.size ≤ br ∧ (∀ k, vq.ownBlock = some k → w.heap.size ≤ k) ∧ (∀ k, vr.ownBlock = some k → w.heap.size ≤ k) ∧ bq ≠ br ∧ (∀ k, vq.ownBlock = some k → vr.ownBlock ≠ some k) ∧ (∀ k, vb.ownBlock = some k → w.heap.size ≤ k ∨ v2.ownBlock = some k) ∧ Keep (fun k => k = bb) w w') := by
 rw [her]
 have hgv := fun b e W => getValue_any b e W
 have hpw := fun W (hW : Glob W) => pow10_all n W hW (by omega)
 have u1 : IntKind.i32.wrap (-p) = s := by rw [IntKind.wrap_i32]; omega
 have u1w : wrap32 (-p) = s := by unfold wrap32; omega
 have u2 : IntKind.i64.wrap (e1) = e1 := by rw [IntKind.wrap_i64]; omega
 have u2w : wrap64 (e1) = e1 := by unfold wrap64; omega
 have u3 : IntKind.i64.wrap (e2) = e2 := by rw [IntKind.wrap_i64]; omega
 have u3w : wrap64 (e2) = e2 := by unfold wrap64; omega
 have u4 : IntKind.i64.wrap (s) = s := by rw [IntKind.wrap_i64]; omega
 have u4w : wrap64 (s) = s := by unfold wrap64; omega
 obtain ⟨E0, hE0⟩ : ∃ E0, E0 = e1 - e2 := ⟨_, rfl⟩
 have u5 : IntKind.i64.wrap (e1 - e2) = E0 := by rw [IntKind.wrap_i64]; omega
 have u5w : wrap64 (e1 - e2) = E0 := by unfold wrap64; omega
 have u6 : IntKind.i64.wrap (E0 - s) = E := by rw [IntKind.wrap_i64]; omega
 have u6w : wrap64 (E0 - s) = E := by unfold wrap64; omega
 have c1 : (p == -2147483648) = false := by rw [beq_eq_false_iff_ne]; omega
 have c1' : ¬ p = -2147483648 := by omega
 have c2 : decide (2147483647 < E) = false := by rw [decide_eq_false_iff_not]; omega
 have c2' : ¬ 2147483647 < E := by omega
 have c3 : decide (E < -2147483648) = false := by rw [decide_eq_false_iff_not]; omega
 have c3' : ¬ E < -2147483648 := by omega
 have c4 : decide (E < 0) = true := by simpa using hl2
 have u7 : IntKind.i64.wrap (-E) = (n : Int) := by rw [IntKind.wrap_i64]; omega
 have u7w : wrap64 (-E) = (n : Int) := by unfold wrap64; omega
 have hsg := fun W (hW : Fresh w W) => IntSign_z b2 v2 z2 W (hx2.fresh hW)
 obtain ⟨sg, hsg0⟩ : ∃ sg, sg = (if z2 = 0 then (0 : Int) else if z2 < 0 then -1 else 1) := ⟨_, rfl⟩
 rw [← hsg0] at hsg
 have c5' : ¬ sg = 0 := by
  rw [hsg0, if_neg h0]
  split <;> omega
 have c5 : (sg == 0) = false := by rw [beq_eq_false_iff_ne]; exact c5'
 clear hsg0
 obtain ⟨g, hg⟩ : ∃ g, g = w.heap.size := ⟨_, rfl⟩
 have bx := boxes4 w #[.pointer (some ⟨b1, 0, none⟩), .int .i32 e1] #[.pointer (some ⟨b2, 0, none⟩), .int .i32 e2] #[.pointer none, .int .i32 0] #[.pointer none, .int .i32 0] 61 61 61 61 g hg
 have hv1 : ∀ k, v1.ownBlock = some k → k ≠ bb := by
  intro k hk
  obtain ⟨_, _, h1, _⟩ := hx1
  obtain ⟨_, _, h2, _⟩ := hbb
  exact (IntIs.ne h2.str h1.nat hk).symm
 have hv2 : ∀ k, v2.ownBlock = some k → k ≠ bb := by
  intro k hk
  obtain ⟨_, _, h1, _⟩ := hx2
  obtain ⟨_, _, h2, _⟩ := hbb
  exact (IntIs.ne h2.str h1.nat hk).symm
 have hbl := hbb.lt
 have H_bx := hid bx; have H_hgv := hid hgv; have H_hpw := hid hpw; have H_hsg := hid hsg; have H_hx1 := hid hx1; have H_hx2 := hid hx2; have H_hG := hid hG; have H_hz1 := hid hz1; have H_hz2 := hid hz2; have H_h0 := hid h0; have H_he1 := hid he1; have H_he2 := hid he2; have H_hp := hid hp; have H_hs := hid hs; have H_hE := hid hE; have H_hl2 := hid hl2; have H_hE0 := hid hE0; have H_her := hid her; have H_hl1 := hid hl1; have H_hn := hid hn; have H_hbb := hid hbb; have H_hn1 := hid hn1; have H_hn2 := hid hn2; have H_hv1 := hid hv1; have H_hv2 := hid hv2; have H_hbl := hid hbl; clear bx hgv hpw hsg hx1 hx2 hG hz1 hz2 h0 he1 he2 hp hs hE hl2 hE0 her hl1 hn hbb hn1 hn2 hv1 hv2 hbl
 go_enter Tryz.func106, Tryz.ntmps106
 go_wp2_with (fail)
 generalize hw1 : (((w.alloc _).alloc _).alloc _).alloc _ = w1
 rw [← hg]
 obtain ⟨d1, d2, d3, d4, fa⟩ := H_bx.out w1 hw1
 have m0 := rwc d2 0
 have m1 := rwc d2 1
 simp at m0 m1
 clear H_bx
 have H_d1 := hid d1; have H_d2 := hid d2; have H_d3 := hid d3; have H_d4 := hid d4; have H_fa := hid fa; have H_hw1 := hid hw1; have H_hg := hid hg; clear d1 d2 d3 d4 fa hw1 hg
 go_wp2_with (fail)
 refine (H_hgv.out _ _ _).mono ?_
 rintro r w2 ⟨rfl, f2⟩
 clear m0 m1
 have d1 := rfr H_d1.out f2
 have d2 := rfr H_d2.out f2
 have d3 := rfr H_d3.out f2
 have d4 := rfr H_d4.out f2
 have fa := ftr H_fa.out f2
 clear H_d1 H_d2 H_d3 H_d4 H_fa
 have H_d1 := hid d1; have H_d2 := hid d2; have H_d3 := hid d3; have H_d4 := hid d4; have H_fa := hid fa; have H_f2 := hid f2; clear d1 d2 d3 d4 fa f2
 go_wp2_with (fail)
 refine (H_hsg.out _ H_fa.out).mono ?_
 rintro r w3 ⟨rfl, hw3⟩
 obtain rfl : w2 = w3 := hw3.symm
 have k0 := rwc H_d1.out 0
 have k1 := rwc H_d1.out 1
 have m0 := rwc H_d2.out 0
 have m1 := rwc H_d2.out 1
 simp at k0 k1 m0 m1
 obtain ⟨h, hh⟩ : ∃ h, h = w2.heap.size := ⟨_, rfl⟩
 have ak0 := fun o => cfr k0 ((Keep.refl (fun _ => False) w2).alloc o)
 have ak1 := fun o => cfr k1 ((Keep.refl (fun _ => False) w2).alloc o)
 have am0 := fun o => cfr m0 ((Keep.refl (fun _ => False) w2).alloc o)
 have am1 := fun o => cfr m1 ((Keep.refl (fun _ => False) w2).alloc o)
 have H_hh := hid hh; clear hh
 go_wp2_with (fail)
 clear ak0 ak1 am0 am1 k0 k1 m0 m1
 generalize hw4 : w2.alloc _ = w4
 rw [← H_hh.out]
 have r6 : w4.heap[h]? = some (.cells #[.bool false, .slice none 0 0] 110 (0, 0)) := by rw [← hw4, H_hh.out]; exact heap_alloc_new w2 _
 have f4 : Fresh w2 w4 := by rw [← hw4]; exact (Keep.refl _ _).alloc _
 have hNG := H_hG.out.size
 have hsz := H_fa.out.size
 have hh0 := H_hh.out
 have za := ZI.new r6 (by omega)
 have zb := H_hbb.out.fresh (ftr H_fa.out f4)
 have hag : w.heap.size ≤ h := by omega
 have hgb : g + 3 < h := by
  have := lt_of_row H_d4.out
  omega
 have a4 : h < w4.heap.size := lt_of_row r6
 clear r6 hNG hsz hh0
 have d1 := rfr H_d1.out f4
 have d2 := rfr H_d2.out f4
 have d3 := rfr H_d3.out f4
 have d4 := rfr H_d4.out f4
 have fa := ftr H_fa.out f4
 clear H_d1 H_d2 H_d3 H_d4 H_fa
 have H_d1 := hid d1; have H_d2 := hid d2; have H_d3 := hid d3; have H_d4 := hid d4; have H_fa := hid fa; have H_f4 := hid f4; have H_za := hid za; have H_zb := hid zb; have H_hw4 := hid hw4; have H_a4 := hid a4; have H_hag := hid hag; have H_hgb := hid hgb; clear d1 d2 d3 d4 fa f4 za zb hw4 a4 hag hgb
 refine (H_hgv.out _ _ _).mono ?_
 rintro r w5 ⟨rfl, f5⟩
 have d1 := rfr H_d1.out f5
 have d2 := rfr H_d2.out f5
 have d3 := rfr H_d3.out f5
 have d4 := rfr H_d4.out f5
 have za := H_za.out.fresh f5
 have zb := H_zb.out.fresh f5
 have fa := ftr H_fa.out f5
 clear H_d1 H_d2 H_d3 H_d4 H_za H_zb H_fa
 have H_d1 := hid d1; have H_d2 := hid d2; have H_d3 := hid d3; have H_d4 := hid d4; have H_fa := hid fa; have H_f5 := hid f5; have H_za := hid za; have H_zb := hid zb; clear d1 d2 d3 d4 fa f5 za zb
 obtain ⟨s0, l0, hc0, hcz⟩ : ∃ s l, IntIs w5 b1 0 s v1 l ∧ ival s l = z1 := H_hx1.out.fresh H_fa.out
 have vf := hc0.nat.form
 obtain ⟨xa, xc, hvf⟩ := vf
 rw [hvf] at hc0
 obtain ⟨ln, hln⟩ : ∃ ln, l0.length = ln := ⟨_, rfl⟩
 have y0 : w5.cell? ⟨b1, 0, none⟩ = some (.bool s0) := hc0.str.c0
 have y1 : w5.cell? ⟨b1, 1, none⟩ = some (.slice xa ln xc) := by rw [← hln]; exact hc0.str.c1
 obtain ⟨n1, l1, ha1, hi1⟩ := H_za.out
 have g0 := ha1.str.c0
 have g1 : w5.cell? ⟨h, 1, none⟩ = _ := ha1.str.c1
 have j0 := ha1.str.f0
 have j1 : w5.frozen? ⟨h, 1, none⟩ = false := ha1.str.f1
 clear ha1 hi1
 have m0 := rwc H_d2.out 0
 have m1 := rwc H_d2.out 1
 simp at m0 m1
 have mm : ∀ u u' o q, w5.cell? ⟨g + 1, o, none⟩ = q → ((w5.setCell ⟨h, 0, none⟩ u).setCell ⟨h, 1, none⟩ u').cell? ⟨g + 1, o, none⟩ = q := fun u u' o q hq => fcl (by have hg := H_hg.out; have hag := H_hag.out; have hgb := H_hgb.out; have hbl := H_hbl.out; omega) (fcl (by have hg := H_hg.out; have hag := H_hag.out; have hgb := H_hgb.out; have hbl := H_hbl.out; omega) hq)
 have am0 := fun u u' => mm u u' 0 _ m0
 have am1 := fun u u' => mm u u' 1 _ m1
 clear mm m0 m1
 have H_hc0 := hid hc0; have H_hcz := hid hcz; have H_hvf := hid hvf; have H_hln := hid hln; clear hc0 hcz hvf hln
 go_wp2_with (fail)
 clear am0 am1 y0 y1 g0 g1 j0 j1
 generalize hw6 : (w5.setCell _ _).setCell _ _ = w6
 have k6 : Keep (fun k => k = h) w5 w6 := by rw [← hw6]; exact ((Keep.refl (fun k => k = h) w5).setCell (p := ⟨h, 0, none⟩) (fun _ => rfl) _).setCell (p := ⟨h, 1, none⟩) (fun _ => rfl) _
 have za := ZI.copy H_hln.out H_hc0.out H_hcz.out H_za.out hw6.symm
 have d1 := rkp H_d1.out k6 (by have hg := H_hg.out; have hag := H_hag.out; have hgb := H_hgb.out; have hbl := H_hbl.out; intro e; omega)
 have d2 := rkp H_d2.out k6 (by have hg := H_hg.out; have hag := H_hag.out; have hgb := H_hgb.out; have hbl := H_hbl.out; intro e; omega)
 have d3 := rkp H_d3.out k6 (by have hg := H_hg.out; have hag := H_hag.out; have hgb := H_hgb.out; have hbl := H_hbl.out; intro e; omega)
 have d4 := rkp H_d4.out k6 (by have hg := H_hg.out; have hag := H_hag.out; have hgb := H_hgb.out; have hbl := H_hbl.out; intro e; omega)
 have zb := H_zb.out.keep k6 (by have hg := H_hg.out; have hag := H_hag.out; have hgb := H_hgb.out; have hbl := H_hbl.out; intro e; omega) (fun _ h => by simp [Value.ownBlock] at h)
 have fa := H_fa.out.trans k6 (fun _ _ h => h) (fun k hk e => by have hg := H_hg.out; have hag := H_hag.out; have hgb := H_hgb.out; have hbl := H_hbl.out; omega)
 clear H_d1 H_d2 H_d3 H_d4 H_zb H_za H_fa
 have H_d1 := hid d1; have H_d2 := hid d2; have H_d3 := hid d3; have H_d4 := hid d4; have H_za := hid za; have H_zb := hid zb; have H_fa := hid fa; have H_k6 := hid k6; have H_hw6 := hid hw6; clear d1 d2 d3 d4 za zb fa k6 hw6
 refine (H_hgv.out _ _ _).mono ?_
 rintro r w7 ⟨rfl, f7⟩
 have d1 := rfr H_d1.out f7
 have d2 := rfr H_d2.out f7
 have d3 := rfr H_d3.out f7
 have d4 := rfr H_d4.out f7
 have za := H_za.out.fresh f7
 have zb := H_zb.out.fresh f7
 have fa := ftr H_fa.out f7
 clear H_d1 H_d2 H_d3 H_d4 H_za H_zb H_fa
 have H_d1 := hid d1; have H_d2 := hid d2; have H_d3 := hid d3; have H_d4 := hid d4; have H_za := hid za; have H_zb := hid zb; have H_fa := hid fa; have H_f7 := hid f7; clear d1 d2 d3 d4 za zb fa f7
 go_wp2_with (fail)
 refine (H_hpw.out _ (H_hG.out.fresh H_fa.out)).mono ?_
 rintro r w8 ⟨bt, vt, rfl, zt, f8, gt, ot⟩
 have hsz7 := H_fa.out.size
 have d1 := rfr H_d1.out f8
 have d2 := rfr H_d2.out f8
 have d3 := rfr H_d3.out f8
 have d4 := rfr H_d4.out f8
 have za := H_za.out.fresh f8
 have zb := H_zb.out.fresh f8
 have fa := ftr H_fa.out f8
 clear H_d1 H_d2 H_d3 H_d4 H_za H_zb H_fa
 have hblt := H_hx2.out.lt
 have hmul := IntMul_z bb b2 bt (.slice none 0 0) v2 vt 0 z2 ((10 ^ n : Nat) : Int) w8 (H_hG.out.fresh fa) (wpow_10_39 H_hz2.out) (ten_wpow39b (by have := H_hn.out; have := H_hl1.out; omega)) (by omega) zb (H_hx2.out.fresh fa) zt (Sep.nil _) (Sep.nil _)
 clear hblt
 have H_d1 := hid d1; have H_d2 := hid d2; have H_d3 := hid d3; have H_d4 := hid d4; have H_za := hid za; have H_zb := hid zb; have H_fa := hid fa; have H_f8 := hid f8; have H_hmul := hid hmul; have H_zt := hid zt; have H_gt := hid gt; have H_ot := hid ot; have H_hsz7 := hid hsz7; clear d1 d2 d3 d4 za zb fa f8 hmul zt gt ot hsz7
 go_wp2_with (fail)
 refine H_hmul.out.mono ?_
 rintro r w9 ⟨rfl, vb, zb, kb0, ob⟩
 have kb : Keep (fun k => k = bb) w8 w9 := kb0.mono (fun k _ e => e.elim id (fun e => by simp [Value.ownBlock] at e))
 clear kb0
 have ob : ∀ k, vb.ownBlock = some k → w8.heap.size ≤ k := fun k hk => (ob k hk).elim (fun e => by simp [Value.ownBlock] at e) id
 have ozb : ∀ k, vb.ownBlock = some k → k < w9.heap.size := fun k hk => zb.own_lt hk
 have ozc : ∀ k, vb.ownBlock = some k → g + 3 < k := fun k hk => by have h1 := ob k hk; have h2 := lt_of_row H_d4.out; have h3 := H_hg.out; omega
 have ozd : ∀ k, vb.ownBlock = some k → w.heap.size ≤ k ∨ v2.ownBlock = some k := fun k hk => .inl (by have := ozc k hk; have := H_hg.out; omega)
 have za := H_za.out.keep kb (by have hg := H_hg.out; have hag := H_hag.out; have hgb := H_hgb.out; have hbl := H_hbl.out; intro e; omega) (fun k hk e => H_hv1.out k (by rw [H_hvf.out, H_hln.out]; exact hk) e)
 have d1 := rkp H_d1.out kb (by have hg := H_hg.out; have hag := H_hag.out; have hgb := H_hgb.out; have hbl := H_hbl.out; intro e; omega)
 have d2 := rkp H_d2.out kb (by have hg := H_hg.out; have hag := H_hag.out; have hgb := H_hgb.out; have hbl := H_hbl.out; intro e; omega)
 have d3 := rkp H_d3.out kb (by have hg := H_hg.out; have hag := H_hag.out; have hgb := H_hgb.out; have hbl := H_hbl.out; intro e; omega)
 have d4 := rkp H_d4.out kb (by have hg := H_hg.out; have hag := H_hag.out; have hgb := H_hgb.out; have hbl := H_hbl.out; intro e; omega)
 have fw := H_fa.out.trans kb (U := fun k => k = bb) (fun _ _ h => h.elim) (fun _ _ h => h)
 clear H_d1 H_d2 H_d3 H_d4 H_za H_zb
 have k0 := rwc d1 0
 have k1 := rwc d1 1
 have m0 := rwc d2 0
 have m1 := rwc d2 1
 simp at k0 k1 m0 m1
 have H_ozb := hid ozb; have H_ozc := hid ozc; have H_ozd := hid ozd; have H_d1 := hid d1; have H_d2 := hid d2; have H_d3 := hid d3; have H_d4 := hid d4; have H_za := hid za; have H_zb := hid zb; have H_fw := hid fw; have H_kb := hid kb; have H_ob := hid ob; clear ozb ozc ozd d1 d2 d3 d4 za zb fw kb ob
 go_wp2_with (fail)
 generalize hw10 : (w9.alloc _).alloc _ = w10
 obtain ⟨hq, hhq⟩ : ∃ hq, hq = w9.heap.size := ⟨_, rfl⟩
 rw [← hhq]
 obtain ⟨r5, r6, f10⟩ := boxes2 w9 #[.bool false, .slice none 0 0] #[.bool false, .slice none 0 0] 110 110 hq hhq w10 hw10
 have d1 := rfr H_d1.out f10
 have d2 := rfr H_d2.out f10
 have d3 := rfr H_d3.out f10
 have d4 := rfr H_d4.out f10
 have za := H_za.out.fresh f10
 have zb := H_zb.out.fresh f10
 clear H_d1 H_d2 H_d3 H_d4 H_za H_zb
 have fw := H_fw.out.trans f10 (U := fun k => k = bb) (fun _ _ h => h) (fun _ _ h => h.elim)
 clear H_fw
 have hNG := H_hG.out.size
 have hszw := H_kb.out.size
 have hlta : h < hq := by
  have h1 := H_hh.out
  have h2 := H_f4.out.size
  have h3 := H_f5.out.size
  have h4 := hhq
  have h5 := H_k6.out.size
  have h6 := H_f7.out.size
  have h7 := H_f8.out.size
  have h8 := lt_of_row r5
  have h9 := H_kb.out.size
  have hA4 := H_hag.out
  have h44 := H_a4.out
  omega
 have hltb : bb < hq := by
  have hg := H_hg.out; have hag := H_hag.out; have hgb := H_hgb.out; have hbl := H_hbl.out; omega
 have hwq : w.heap.size ≤ hq := by
  have hg := H_hg.out; have hag := H_hag.out; have hgb := H_hgb.out; have hbl := H_hbl.out; omega
 have hgq : g + 3 < hq := by
  have hg := H_hg.out; have hag := H_hag.out; have hgb := H_hgb.out; have hbl := H_hbl.out; omega
 have zq := ZI.new r5 (by omega)
 have zr := ZI.new r6 (by omega)
 clear r5 r6 hNG hszw
 have hqr := IntQuoRem_z hq (h) bb (hq + 1) _ _ _ _ w10 (H_hG.out.keep fw (fun k hk e => by have := H_hbb.out.ge; omega)) (wpow_10_39 H_hz1.out) (ten_mul_lt H_hz2.out (by have := H_hn.out; have := H_hl1.out; omega)) (Int.mul_ne_zero H_h0.out (Int.ne_of_gt (ten_posI n))) (by omega) (by omega) (by omega) (by omega) (by omega) zq za zb zr
 have H_d1 := hid d1; have H_d2 := hid d2; have H_d3 := hid d3; have H_d4 := hid d4; have H_za := hid za; have H_zb := hid zb; have H_fw := hid fw; have H_hw10 := hid hw10; have H_hhq := hid hhq; have H_f10 := hid f10; have H_hlta := hid hlta; have H_hltb := hid hltb; have H_hwq := hid hwq; have H_hgq := hid hgq; have H_zq := hid zq; have H_zr := hid zr; have H_hqr := hid hqr; clear d1 d2 d3 d4 za zb fw hw10 hhq f10 hlta hltb hwq hgq zq zr hqr
 refine H_hqr.out.mono ?_
 rintro r w11 ⟨rfl, vq, vr, zq, zr, kq, oq, orr, hdis⟩
 have d3 := rkp H_d3.out kq (by have := H_hgq.out; intro e; omega)
 have d4 := rkp H_d4.out kq (by have := H_hgq.out; intro e; omega)
 have zb := H_zb.out.keep kq (by have := H_hltb.out; intro e; omega) (fun k hk e => by have h1 := H_ozb.out k hk; have h2 := H_hhq.out; omega)
 obtain ⟨h12, hh12⟩ : ∃ k, k = w11.heap.size := ⟨_, rfl⟩
 clear H_d1 H_d2 H_d3 H_d4 H_za H_zb H_zq H_zr
 have H_d3 := hid d3; have H_d4 := hid d4; have H_zq := hid zq; have H_zr := hid zr; have H_kq := hid kq; have H_oq := hid oq; have H_orr := hid orr; have H_hdis := hid hdis; have H_hh12 := hid hh12; have H_zb := hid zb; clear d3 d4 zq zr kq oq orr hdis hh12 zb
 go_wp2_with (fail)
 generalize hw12 : (w11.alloc _).alloc _ = w12
 rw [← H_hh12.out]
 obtain ⟨r7, r8, f12⟩ := boxes2 w11 #[.pointer (some ⟨hq, 0, none⟩), .int .i32 s] #[.pointer (some ⟨hq + 1, 0, none⟩), .int .i32 e1] 61 61 h12 H_hh12.out w12 hw12
 have d3 := rfr H_d3.out f12
 have d4 := rfr H_d4.out f12
 have i0 := rwc r7 0
 have i1 := rwc r7 1
 have i2 := rwc r8 0
 have i3 := rwc r8 1
 have p0 := rwc d3 0
 have p1 := rwc d3 1
 have p2 := rwc d4 0
 have p3 := rwc d4 1
 simp at i0 i1 i2 i3 p0 p1 p2 p3
 have s0' : w12.frozen? ⟨g + 1 + 1, 0, none⟩ = false := frozen_of_row _ _ _ _ _ d3
 have s1' : w12.frozen? ⟨g + 1 + 1, 1, none⟩ = false := frozen_of_row _ _ _ _ _ d3
 have s2' : w12.frozen? ⟨g + 1 + 1 + 1, 0, none⟩ = false := frozen_of_row _ _ _ _ _ d4
 have s3' : w12.frozen? ⟨g + 1 + 1 + 1, 1, none⟩ = false := frozen_of_row _ _ _ _ _ d4
 clear H_d3 H_d4
 have H_d3 := hid d3; have H_d4 := hid d4; have H_f12 := hid f12; have H_r7 := hid r7; have H_r8 := hid r8; have H_hw12 := hid hw12; clear d3 d4 f12 r7 r8 hw12
 have hl11 := H_zq.out.lt
 rw [← H_hh12.out] at hl11
 have hgq0 := H_hgq.out
 have ne1 : h12 ≠ g + 1 + 1 := by omega
 have ne2 : h12 + 1 ≠ g + 1 + 1 := by omega
 clear hl11 hgq0
 refine rgE (S := (fun (w' : World) => w'.cell? ⟨h12, 0, none⟩ = some (.pointer (some ⟨hq, 0, none⟩)) ∧ w'.cell? ⟨h12, 1, none⟩ = some (.int .i32 s) ∧ w'.cell? ⟨h12 + 1, 0, none⟩ = some (.pointer (some ⟨hq + 1, 0, none⟩)) ∧ w'.cell? ⟨h12 + 1, 1, none⟩ = some (.int .i32 e1))) 3 (by kernel_rfl) (by exact ⟨i0, i1, i2, i3⟩) (fun hHeld => ?_)
 refine tkL (i := 0) (c := 2) (v := ?v0_3) rfl (by kernel_rfl) (fun _ _ _ h => h) ⟨by rfl, ?y0_3⟩ (by assumption) ?r0_3
 case y0_3 => (intro w hSw; go_split_ands; go_simp; try with_reducible rfl)
 try simp only [Act.put, yA, yB, yD, yE, yF]
 refine tkS (i := 1) (v := ?v1_3) rfl (by kernel_rfl) (fun _ _ _ h => h) ⟨by rfl, ?y1_3⟩ (by assumption) ?r1_3
 case y1_3 => (intro w hSw; go_split_ands; go_simp; try with_reducible rfl)
 try simp only [Act.put, yA, yB, yC, yD, yE, yF]
 refine tkO (i := 2) rfl (by kernel_rfl) (fun K hK => ?_)
 go_simp
 skip
 refine hK.out _ _ (fun _ => ?hs2_3) ?_
 case hs2_3 => exact ⟨fcl ne1 (fcl ne1 i0), fcl ne1 (fcl ne1 i1), fcl ne2 (fcl ne2 i2), fcl ne2 (fcl ne2 i3)⟩
 clear hK K
 try simp only [Act.put, yA, yB, yC, yD, yE, yF]
 refine tkO (i := 3) rfl (by kernel_rfl) (fun K hK => ?_)
 go_simp
 refine hK.out _ _ (fun h => Bool.noConfusion (show true = false from h)) ?_
 clear hK K
 try simp only [Act.put, yA, yB, yC, yD, yE, yF]
 refine tkD (by kernel_rfl) ?_ _
 go_wp2_with (fail)
 have hw13e := H_hw12.out
 have r3 := rsn (i := 1) (v := .int .i32 e1) (by omega : g + 1 + 1 + 1 ≠ g + 1 + 1) (rsn (i := 0) (v := .pointer (some ⟨hq + 1, 0, none⟩)) (by omega : g + 1 + 1 + 1 ≠ g + 1 + 1) (rst (i := 1) (v := .int .i32 s) (rst (i := 0) (v := .pointer (some ⟨hq, 0, none⟩)) H_d3.out)))
 have r4 := rst (i := 1) (v := .int .i32 e1) (rst (i := 0) (v := .pointer (some ⟨hq + 1, 0, none⟩)) (rsn (i := 1) (v := .int .i32 s) (by omega : g + 1 + 1 ≠ g + 1 + 1 + 1) (rsn (i := 0) (v := .pointer (some ⟨hq, 0, none⟩)) (by omega : g + 1 + 1 ≠ g + 1 + 1 + 1) H_d4.out)))
 have kf : Keep (fun k => k = g + 1 + 1 ∨ k = g + 1 + 1 + 1) w12 ((((w12.setCell ⟨g + 1 + 1, 0, none⟩ (.pointer (some ⟨hq, 0, none⟩))).setCell ⟨g + 1 + 1, 1, none⟩ (.int .i32 s)).setCell ⟨g + 1 + 1 + 1, 0, none⟩ (.pointer (some ⟨hq + 1, 0, none⟩))).setCell ⟨g + 1 + 1 + 1, 1, none⟩ (.int .i32 e1)) :=
  ((((Keep.refl _ w12).setCell (p := ⟨g + 1 + 1, 0, none⟩) (fun _ => .inl rfl) _).setCell (p := ⟨g + 1 + 1, 1, none⟩) (fun _ => .inl rfl) _).setCell (p := ⟨g + 1 + 1 + 1, 0, none⟩) (fun _ => .inr rfl) _).setCell (p := ⟨g + 1 + 1 + 1, 1, none⟩) (fun _ => .inr rfl) _
 generalize hw13 : (((w12.setCell _ _).setCell _ _).setCell _ _).setCell _ _ = w13 at *
 simp at r3 r4
 refine bodyPost_ret (results_cell2 rfl _ _ (g + 1 + 1) (g + 1 + 1 + 1) rfl rfl
  (run_loadVar_row _ _ _ _ _ (0, 0) _ r3 Tryz.underlying61 rfl (by kernel_rfl)) (run_loadVar_row _ _ _ _ _ (0, 0) _ r4 Tryz.underlying61 rfl (by kernel_rfl))) rfl ?_
 have hgq := H_hgq.out
 have hgw := H_hg.out
 have hqw := H_hhq.out
 have h10s := H_f10.out.size
 have zq := (H_zq.out.fresh H_f12.out).keep kf (by omega) (fun k hk h => by have := H_oq.out k hk; omega)
 have zq := zq.fresh ((Keep.refl _ _).drew)
 have zr := (H_zr.out.fresh H_f12.out).keep kf (by omega) (fun k hk h => by have := H_orr.out k hk; omega)
 have zr := zr.fresh ((Keep.refl _ _).drew)
 have hwq := H_hwq.out
 have hbl := H_hbl.out
 have zb := (H_zb.out.fresh H_f12.out).keep kf (by omega) (fun k hk h => by have := H_ozc.out k hk; omega)
 have zb := zb.fresh ((Keep.refl _ _).drew)
 have ff : Keep (fun k => k = bb) w w13 := ((H_fw.out.trans H_kq.out (U := fun k => k = bb) (fun _ _ h => h) (fun k hk h => by omega)).trans H_f12.out (fun _ _ h => h) (fun _ _ h => h.elim)).trans kf (fun _ _ h => h) (fun k hk h => by omega)
 exact ⟨hq, vq, hq + 1, vr, _, rfl, zq, zr, zb, hwq, by omega, fun k hk => by have := H_oq.out k hk; omega, fun k hk => by have := H_orr.out k hk; omega, by omega, H_hdis.out, fun k hk => H_ozd.out k hk, ff.drew⟩

theorem quoRem_bge (b1 b2 bb : Nat) (v1 v2 : Value) (z1 e1 z2 e2 p s er : Int) (n : Nat) (w : World) (hG : Glob w) (hz1 : z1.natAbs < wpow 10) (hz2 : z2.natAbs < wpow 10) (h0 : z2 ≠ 0) (hx1 : ZI w b1 v1 z1) (hx2 : ZI w b2 v2 z2)
 (he1 : -400 ≤ e1 ∧ e1 ≤ 400) (he2 : -400 ≤ e2 ∧ e2 ≤ 400) (hp : -400 ≤ p ∧ p ≤ 400) (hs : s = -p) (hE : (n : Int) = e1 - e2 - s) (hl2 : n ≤ 255) (her : er = s + e2) (hbb : ZI w bb (.slice none 0 0) 0) (hn1 : b1 ≠ bb) (hn2 : b2 ≠ bb) :
 Calls Tryz.prog 106 #[sd b1 e1, sd b2 e2, .int .i32 p, .pointer (some ⟨bb, 0, none⟩)] w (fun r w' => ∃ bq vq br vr vb, r = .returned (.tuple #[sd bq s, sd br er]) ∧ ZI w' bq vq ((z1 * ((10 ^ n : Nat) : Int)).tdiv z2) ∧ ZI w' br vr ((z1 * ((10 ^ n : Nat) : Int)).tmod z2) ∧ ZI w' bb vb z2 ∧ w.heap.size ≤ bq ∧ w.heap.size ≤ br ∧ (∀ k, vq.ownBlock = some k → w.heap.size ≤ k) ∧ (∀ k, vr.ownBlock = some k → w.heap.size ≤ k) ∧ bq ≠ br ∧ (∀ k, vq.ownBlock = some k → vr.ownBlock ≠ some k) ∧ (∀ k, vb.ownBlock = some k → w.heap.size ≤ k ∨ v2.ownBlock = some k) ∧ Keep (fun k => k = bb) w w') := by
 have hgv := fun b e W => getValue_any b e W
 have hpw := fun W (hW : Glob W) => pow10_all n W hW (by omega)
 have u1 : IntKind.i32.wrap (-p) = s := by rw [IntKind.wrap_i32]; omega
 have u1w : wrap32 (-p) = s := by unfold wrap32; omega
 have u2 : IntKind.i64.wrap (e1) = e1 := by rw [IntKind.wrap_i64]; omega
 have u2w : wrap64 (e1) = e1 := by unfold wrap64; omega
 have u3 : IntKind.i64.wrap (e2) = e2 := by rw [IntKind.wrap_i64]; omega
 have u3w : wrap64 (e2) = e2 := by unfold wrap64; omega
 have u4 : IntKind.i64.wrap (s) = s := by rw [IntKind.wrap_i64]; omega
 have u4w : wrap64 (s) = s := by unfold wrap64; omega
 obtain ⟨E0, hE0⟩ : ∃ E0, E0 = e1 - e2 := ⟨_, rfl⟩
 have u5 : IntKind.i64.wrap (e1 - e2) = E0 := by rw [IntKind.wrap_i64]; omega
 have u5w : wrap64 (e1 - e2) = E0 := by unfold wrap64; omega
 have u6 : IntKind.i64.wrap (E0 - s) = (n : Int) := by rw [IntKind.wrap_i64]; omega
 have u6w : wrap64 (E0 - s) = (n : Int) := by unfold wrap64; omega
 have c1 : (p == -2147483648) = false := by rw [beq_eq_false_iff_ne]; omega
 have c1' : ¬ p = -2147483648 := by omega
 have c2 : decide (2147483647 < (n : Int)) = false := by rw [decide_eq_false_iff_not]; omega
 have c2' : ¬ 2147483647 < (n : Int) := by omega
 have c3 : decide ((n : Int) < -2147483648) = false := by rw [decide_eq_false_iff_not]; omega
 have c3' : ¬ (n : Int) < -2147483648 := by omega
 have c4 : decide ((n : Int) < 0) = false := by simp
 have c4' : ¬ (n : Int) < 0 := by omega
 have u7 : IntKind.i32.wrap (s + e2) = er := by rw [IntKind.wrap_i32]; omega
 have u7w : wrap32 (s + e2) = er := by unfold wrap32; omega
 have hsg := fun W (hW : Fresh w W) => IntSign_z b2 v2 z2 W (hx2.fresh hW)
 obtain ⟨sg, hsg0⟩ : ∃ sg, sg = (if z2 = 0 then (0 : Int) else if z2 < 0 then -1 else 1) := ⟨_, rfl⟩
 rw [← hsg0] at hsg
 have c5' : ¬ sg = 0 := by
  rw [hsg0, if_neg h0]
  split <;> omega
 have c5 : (sg == 0) = false := by rw [beq_eq_false_iff_ne]; exact c5'
 clear hsg0
 obtain ⟨g, hg⟩ : ∃ g, g = w.heap.size := ⟨_, rfl⟩
 have bx := boxes4 w #[.pointer (some ⟨b1, 0, none⟩), .int .i32 e1] #[.pointer (some ⟨b2, 0, none⟩), .int .i32 e2] #[.pointer none, .int .i32 0] #[.pointer none, .int .i32 0] 61 61 61 61 g hg
 have hv1 : ∀ k, v1.ownBlock = some k → k ≠ bb := by
  intro k hk
  obtain ⟨_, _, h1, _⟩ := hx1
  obtain ⟨_, _, h2, _⟩ := hbb
  exact (IntIs.ne h2.str h1.nat hk).symm
 have hv2 : ∀ k, v2.ownBlock = some k → k ≠ bb := by
  intro k hk
  obtain ⟨_, _, h1, _⟩ := hx2
  obtain ⟨_, _, h2, _⟩ := hbb
  exact (IntIs.ne h2.str h1.nat hk).symm
 have hbl := hbb.lt
 have H_bx := hid bx; have H_hgv := hid hgv; have H_hpw := hid hpw; have H_hsg := hid hsg; have H_hx1 := hid hx1; have H_hx2 := hid hx2; have H_hG := hid hG; have H_hz1 := hid hz1; have H_hz2 := hid hz2; have H_h0 := hid h0; have H_he1 := hid he1; have H_he2 := hid he2; have H_hp := hid hp; have H_hs := hid hs; have H_hE := hid hE; have H_hl2 := hid hl2; have H_hE0 := hid hE0; have H_her := hid her; have H_hbb := hid hbb; have H_hn1 := hid hn1; have H_hn2 := hid hn2; have H_hv1 := hid hv1; have H_hv2 := hid hv2; have H_hbl := hid hbl; clear bx hgv hpw hsg hx1 hx2 hG hz1 hz2 h0 he1 he2 hp hs hE hl2 hE0 her hbb hn1 hn2 hv1 hv2 hbl
 go_enter Tryz.func106, Tryz.ntmps106
 go_wp2_with (fail)
 generalize hw1 : (((w.alloc _).alloc _).alloc _).alloc _ = w1
 rw [← hg]
 obtain ⟨d1, d2, d3, d4, fa⟩ := H_bx.out w1 hw1
 have m0 := rwc d2 0
 have m1 := rwc d2 1
 simp at m0 m1
 clear H_bx
 have H_d1 := hid d1; have H_d2 := hid d2; have H_d3 := hid d3; have H_d4 := hid d4; have H_fa := hid fa; have H_hw1 := hid hw1; have H_hg := hid hg; clear d1 d2 d3 d4 fa hw1 hg
 go_wp2_with (fail)
 refine (H_hgv.out _ _ _).mono ?_
 rintro r w2 ⟨rfl, f2⟩
 clear m0 m1
 have d1 := rfr H_d1.out f2
 have d2 := rfr H_d2.out f2
 have d3 := rfr H_d3.out f2
 have d4 := rfr H_d4.out f2
 have fa := ftr H_fa.out f2
 clear H_d1 H_d2 H_d3 H_d4 H_fa
 have H_d1 := hid d1; have H_d2 := hid d2; have H_d3 := hid d3; have H_d4 := hid d4; have H_fa := hid fa; have H_f2 := hid f2; clear d1 d2 d3 d4 fa f2
 go_wp2_with (fail)
 refine (H_hsg.out _ H_fa.out).mono ?_
 rintro r w3 ⟨rfl, hw3⟩
 obtain rfl : w2 = w3 := hw3.symm
 have k0 := rwc H_d1.out 0
 have k1 := rwc H_d1.out 1
 have m0 := rwc H_d2.out 0
 have m1 := rwc H_d2.out 1
 simp at k0 k1 m0 m1
 obtain ⟨h, hh⟩ : ∃ h, h = w2.heap.size := ⟨_, rfl⟩
 have ak0 := fun o => cfr k0 ((Keep.refl (fun _ => False) w2).alloc o)
 have ak1 := fun o => cfr k1 ((Keep.refl (fun _ => False) w2).alloc o)
 have am0 := fun o => cfr m0 ((Keep.refl (fun _ => False) w2).alloc o)
 have am1 := fun o => cfr m1 ((Keep.refl (fun _ => False) w2).alloc o)
 have H_hh := hid hh; clear hh
 go_wp2_with (fail)
 clear ak0 ak1 am0 am1 k0 k1 m0 m1
 generalize hw4 : w2.alloc _ = w4
 rw [← H_hh.out]
 have r6 : w4.heap[h]? = some (.cells #[.bool false, .slice none 0 0] 110 (0, 0)) := by rw [← hw4, H_hh.out]; exact heap_alloc_new w2 _
 have f4 : Fresh w2 w4 := by rw [← hw4]; exact (Keep.refl _ _).alloc _
 have hNG := H_hG.out.size
 have hsz := H_fa.out.size
 have hh0 := H_hh.out
 have za := ZI.new r6 (by omega)
 have zb := H_hbb.out.fresh (ftr H_fa.out f4)
 have hag : w.heap.size ≤ h := by omega
 have hgb : g + 3 < h := by
  have := lt_of_row H_d4.out
  omega
 have a4 : h < w4.heap.size := lt_of_row r6
 clear r6 hNG hsz hh0
 have d1 := rfr H_d1.out f4
 have d2 := rfr H_d2.out f4
 have d3 := rfr H_d3.out f4
 have d4 := rfr H_d4.out f4
 have fa := ftr H_fa.out f4
 clear H_d1 H_d2 H_d3 H_d4 H_fa
 have H_d1 := hid d1; have H_d2 := hid d2; have H_d3 := hid d3; have H_d4 := hid d4; have H_fa := hid fa; have H_f4 := hid f4; have H_za := hid za; have H_zb := hid zb; have H_hw4 := hid hw4; have H_a4 := hid a4; have H_hag := hid hag; have H_hgb := hid hgb; clear d1 d2 d3 d4 fa f4 za zb hw4 a4 hag hgb
 refine (H_hgv.out _ _ _).mono ?_
 rintro r w5 ⟨rfl, f5⟩
 have d1 := rfr H_d1.out f5
 have d2 := rfr H_d2.out f5
 have d3 := rfr H_d3.out f5
 have d4 := rfr H_d4.out f5
 have za := H_za.out.fresh f5
 have zb := H_zb.out.fresh f5
 have fa := ftr H_fa.out f5
 clear H_d1 H_d2 H_d3 H_d4 H_za H_zb H_fa
 have H_d1 := hid d1; have H_d2 := hid d2; have H_d3 := hid d3; have H_d4 := hid d4; have H_fa := hid fa; have H_f5 := hid f5; have H_za := hid za; have H_zb := hid zb; clear d1 d2 d3 d4 fa f5 za zb
 go_wp2_with (fail)
 refine (H_hpw.out _ (H_hG.out.fresh H_fa.out)).mono ?_
 rintro r w6 ⟨bt, vt, rfl, zt, f6, gt, ot⟩
 have hsz7 := H_fa.out.size
 have d1 := rfr H_d1.out f6
 have d2 := rfr H_d2.out f6
 have d3 := rfr H_d3.out f6
 have d4 := rfr H_d4.out f6
 have za := H_za.out.fresh f6
 have zb := H_zb.out.fresh f6
 have fa := ftr H_fa.out f6
 clear H_d1 H_d2 H_d3 H_d4 H_za H_zb H_fa
 have hblt := H_hx1.out.lt
 have hmul := IntMul_z (h) b1 bt (.slice none 0 0) v1 vt 0 z1 ((10 ^ n : Nat) : Int) w6 (H_hG.out.fresh fa) (wpow_10_39 H_hz1.out) (ten_wpow39b H_hl2.out) (by omega) za (H_hx1.out.fresh fa) zt (Sep.nil _) (Sep.nil _)
 clear hblt
 have H_d1 := hid d1; have H_d2 := hid d2; have H_d3 := hid d3; have H_d4 := hid d4; have H_za := hid za; have H_zb := hid zb; have H_fa := hid fa; have H_f6 := hid f6; have H_hmul := hid hmul; have H_zt := hid zt; have H_gt := hid gt; have H_ot := hid ot; have H_hsz7 := hid hsz7; clear d1 d2 d3 d4 za zb fa f6 hmul zt gt ot hsz7
 go_wp2_with (fail)
 refine H_hmul.out.mono ?_
 rintro r w7 ⟨rfl, vA, za, ka0, oa⟩
 have ka : Keep (fun k => k = h) w6 w7 := ka0.mono (fun k _ e => e.elim id (fun e => by simp [Value.ownBlock] at e))
 clear ka0
 have oa : ∀ k, vA.ownBlock = some k → w6.heap.size ≤ k := fun k hk => (oa k hk).elim (fun e => by simp [Value.ownBlock] at e) id
 have oag : ∀ k, vA.ownBlock = some k → w.heap.size ≤ k := fun k hk => by have h1 := oa k hk; have h2 := H_fa.out.size; omega
 have oah : ∀ k, vA.ownBlock = some k → h < k := fun k hk => by have h1 := oa k hk; have h3 := H_f5.out.size; have h4 := H_f6.out.size; have h5 := H_a4.out; omega
 clear oa
 have zb := H_zb.out.keep ka (by have hg := H_hg.out; have hag := H_hag.out; have hgb := H_hgb.out; have hbl := H_hbl.out; intro e; omega) (fun _ h => by simp [Value.ownBlock] at h)
 have d1 := rkp H_d1.out ka (by have hg := H_hg.out; have hag := H_hag.out; have hgb := H_hgb.out; have hbl := H_hbl.out; intro e; omega)
 have d2 := rkp H_d2.out ka (by have hg := H_hg.out; have hag := H_hag.out; have hgb := H_hgb.out; have hbl := H_hbl.out; intro e; omega)
 have d3 := rkp H_d3.out ka (by have hg := H_hg.out; have hag := H_hag.out; have hgb := H_hgb.out; have hbl := H_hbl.out; intro e; omega)
 have d4 := rkp H_d4.out ka (by have hg := H_hg.out; have hag := H_hag.out; have hgb := H_hgb.out; have hbl := H_hbl.out; intro e; omega)
 have fa := H_fa.out.trans ka (fun _ _ h => h) (fun k hk e => by have hg := H_hg.out; have hag := H_hag.out; have hgb := H_hgb.out; have hbl := H_hbl.out; omega)
 clear H_d1 H_d2 H_d3 H_d4 H_zb H_za H_fa
 have m0 := rwc d2 0
 have m1 := rwc d2 1
 simp at m0 m1
 have H_d1 := hid d1; have H_d2 := hid d2; have H_d3 := hid d3; have H_d4 := hid d4; have H_za := hid za; have H_zb := hid zb; have H_fa := hid fa; have H_ka := hid ka; have H_oag := hid oag; have H_oah := hid oah; clear d1 d2 d3 d4 za zb fa ka oag oah
 go_wp2_with (fail)
 refine (H_hgv.out _ _ _).mono ?_
 rintro r w8 ⟨rfl, f8⟩
 clear m0 m1
 have d1 := rfr H_d1.out f8
 have d2 := rfr H_d2.out f8
 have d3 := rfr H_d3.out f8
 have d4 := rfr H_d4.out f8
 have za := H_za.out.fresh f8
 have zb := H_zb.out.fresh f8
 have fa := ftr H_fa.out f8
 clear H_d1 H_d2 H_d3 H_d4 H_za H_zb H_fa
 have H_d1 := hid d1; have H_d2 := hid d2; have H_d3 := hid d3; have H_d4 := hid d4; have H_za := hid za; have H_zb := hid zb; have H_fa := hid fa; have H_f8 := hid f8; clear d1 d2 d3 d4 za zb fa f8
 obtain ⟨s0, l0, hc0, hcz⟩ : ∃ s l, IntIs w8 b2 0 s v2 l ∧ ival s l = z2 := H_hx2.out.fresh H_fa.out
 have vf := hc0.nat.form
 obtain ⟨xa, xc, hvf⟩ := vf
 rw [hvf] at hc0
 obtain ⟨ln, hln⟩ : ∃ ln, l0.length = ln := ⟨_, rfl⟩
 have y0 : w8.cell? ⟨b2, 0, none⟩ = some (.bool s0) := hc0.str.c0
 have y1 : w8.cell? ⟨b2, 1, none⟩ = some (.slice xa ln xc) := by rw [← hln]; exact hc0.str.c1
 obtain ⟨n1, l1, ha1, hi1⟩ := H_zb.out
 have g0 := ha1.str.c0
 have g1 : w8.cell? ⟨bb, 1, none⟩ = _ := ha1.str.c1
 have j0 := ha1.str.f0
 have j1 : w8.frozen? ⟨bb, 1, none⟩ = false := ha1.str.f1
 clear ha1 hi1
 have m0 := rwc H_d2.out 0
 have m1 := rwc H_d2.out 1
 simp at m0 m1
 have mm : ∀ u u' o q, w8.cell? ⟨g + 1, o, none⟩ = q → ((w8.setCell ⟨bb, 0, none⟩ u).setCell ⟨bb, 1, none⟩ u').cell? ⟨g + 1, o, none⟩ = q := fun u u' o q hq => fcl (by have hg := H_hg.out; have hag := H_hag.out; have hgb := H_hgb.out; have hbl := H_hbl.out; omega) (fcl (by have hg := H_hg.out; have hag := H_hag.out; have hgb := H_hgb.out; have hbl := H_hbl.out; omega) hq)
 have am0 := fun u u' => mm u u' 0 _ m0
 have am1 := fun u u' => mm u u' 1 _ m1
 clear mm m0 m1
 obtain ⟨W9_, hW9⟩ : ∃ W, W = ((w8.setCell ⟨bb, 0, none⟩ (.bool s0)).setCell ⟨bb, 1, none⟩ (.slice xa ln xc)) := ⟨_, rfl⟩
 have k9 : Keep (fun k => k = bb) w8 W9_ := by rw [hW9]; exact ((Keep.refl (fun k => k = bb) w8).setCell (p := ⟨bb, 0, none⟩) (fun _ => rfl) _).setCell (p := ⟨bb, 1, none⟩) (fun _ => rfl) _
 have zb := ZI.copy hln hc0 hcz H_zb.out hW9
 have ozb : ∀ k, (Value.slice xa ln xc).ownBlock = some k → k < W9_.heap.size := fun k hk => zb.own_lt hk
 have ozd : ∀ k, (Value.slice xa ln xc).ownBlock = some k → w.heap.size ≤ k ∨ v2.ownBlock = some k := fun k hk => .inr (by rw [hvf, hln]; exact hk)
 have ozc : ∀ k, (Value.slice xa ln xc).ownBlock = some k → k < g := fun k hk => by have := H_hx2.out.own_lt (k := k) (by rw [hvf, hln]; exact hk); have := H_hg.out; omega
 have za := H_za.out.keep k9 (by have hg := H_hg.out; have hag := H_hag.out; have hgb := H_hgb.out; have hbl := H_hbl.out; intro e; omega) (fun k hk e => by have hg := H_hg.out; have hag := H_hag.out; have hgb := H_hgb.out; have hbl := H_hbl.out; have := H_oag.out k hk; have := H_oah.out k hk; omega)
 have d1 := rkp H_d1.out k9 (by have hg := H_hg.out; have hag := H_hag.out; have hgb := H_hgb.out; have hbl := H_hbl.out; intro e; omega)
 have d2 := rkp H_d2.out k9 (by have hg := H_hg.out; have hag := H_hag.out; have hgb := H_hgb.out; have hbl := H_hbl.out; intro e; omega)
 have d3 := rkp H_d3.out k9 (by have hg := H_hg.out; have hag := H_hag.out; have hgb := H_hgb.out; have hbl := H_hbl.out; intro e; omega)
 have d4 := rkp H_d4.out k9 (by have hg := H_hg.out; have hag := H_hag.out; have hgb := H_hgb.out; have hbl := H_hbl.out; intro e; omega)
 have kb := k9
 have fw := H_fa.out.trans kb (U := fun k => k = bb) (fun _ _ h => h.elim) (fun _ _ h => h)
 clear H_d1 H_d2 H_d3 H_d4 H_za H_zb
 have k0 := rwc d1 0
 have k1 := rwc d1 1
 have m0 := rwc d2 0
 have m1 := rwc d2 1
 simp at k0 k1 m0 m1
 clear k0 k1 m0 m1
 have H_ozb := hid ozb; have H_ozc := hid ozc; have H_ozd := hid ozd; have H_d1 := hid d1; have H_d2 := hid d2; have H_d3 := hid d3; have H_d4 := hid d4; have H_za := hid za; have H_zb := hid zb; have H_fw := hid fw; have H_kb := hid kb; have H_hc0 := hid hc0; have H_hcz := hid hcz; have H_hvf := hid hvf; have H_hln := hid hln; have H_hW9 := hid hW9; clear ozb ozc ozd d1 d2 d3 d4 za zb fw kb hc0 hcz hvf hln hW9
 go_wp2_with (fail)
 clear y0 y1 g0 g1 j0 j1 am0 am1
 rw [← H_hW9.out]
 generalize hw10 : (W9_.alloc _).alloc _ = w10
 obtain ⟨hq, hhq0⟩ : ∃ hq, hq = w8.heap.size := ⟨_, rfl⟩
 have hhq : hq = W9_.heap.size := by rw [hhq0, H_hW9.out]; simp [World.setCell]
 rw [← hhq0]
 obtain ⟨r5, r6, f10⟩ := boxes2 W9_ #[.bool false, .slice none 0 0] #[.bool false, .slice none 0 0] 110 110 hq hhq w10 hw10
 have d1 := rfr H_d1.out f10
 have d2 := rfr H_d2.out f10
 have d3 := rfr H_d3.out f10
 have d4 := rfr H_d4.out f10
 have za := H_za.out.fresh f10
 have zb := H_zb.out.fresh f10
 clear H_d1 H_d2 H_d3 H_d4 H_za H_zb
 have fw := H_fw.out.trans f10 (U := fun k => k = bb) (fun _ _ h => h) (fun _ _ h => h.elim)
 clear H_fw
 have hNG := H_hG.out.size
 have hszw := H_kb.out.size
 have hlta : h < hq := by
  have h1 := H_hh.out
  have h2 := H_f4.out.size
  have h3 := H_f5.out.size
  have h4 := hhq
  have h5 := H_f6.out.size
  have h6 := H_ka.out.size
  have h7 := H_f8.out.size
  have h9 := H_kb.out.size
  have h44 := H_a4.out
  omega
 have hltb : bb < hq := by
  have hg := H_hg.out; have hag := H_hag.out; have hgb := H_hgb.out; have hbl := H_hbl.out; omega
 have hwq : w.heap.size ≤ hq := by
  have hg := H_hg.out; have hag := H_hag.out; have hgb := H_hgb.out; have hbl := H_hbl.out; omega
 have hgq : g + 3 < hq := by
  have hg := H_hg.out; have hag := H_hag.out; have hgb := H_hgb.out; have hbl := H_hbl.out; omega
 have zq := ZI.new r5 (by omega)
 have zr := ZI.new r6 (by omega)
 clear r5 r6 hNG hszw
 have hqr := IntQuoRem_z hq (h) bb (hq + 1) _ _ _ _ w10 (H_hG.out.keep fw (fun k hk e => by have := H_hbb.out.ge; omega)) (ten_mul_lt H_hz1.out H_hl2.out) (wpow_10_39 H_hz2.out) H_h0.out (by omega) (by omega) (by omega) (by omega) (by omega) zq za zb zr
 have H_d1 := hid d1; have H_d2 := hid d2; have H_d3 := hid d3; have H_d4 := hid d4; have H_za := hid za; have H_zb := hid zb; have H_fw := hid fw; have H_hw10 := hid hw10; have H_hhq := hid hhq; have H_hhq0 := hid hhq0; have H_f10 := hid f10; have H_hlta := hid hlta; have H_hltb := hid hltb; have H_hwq := hid hwq; have H_hgq := hid hgq; have H_zq := hid zq; have H_zr := hid zr; have H_hqr := hid hqr; clear d1 d2 d3 d4 za zb fw hw10 hhq hhq0 f10 hlta hltb hwq hgq zq zr hqr
 refine H_hqr.out.mono ?_
 rintro r w11 ⟨rfl, vq, vr, zq, zr, kq, oq, orr, hdis⟩
 have d3 := rkp H_d3.out kq (by have := H_hgq.out; intro e; omega)
 have d4 := rkp H_d4.out kq (by have := H_hgq.out; intro e; omega)
 have zb := H_zb.out.keep kq (by have := H_hltb.out; intro e; omega) (fun k hk e => by have h1 := H_ozb.out k hk; have h2 := H_hhq.out; omega)
 obtain ⟨h12, hh12⟩ : ∃ k, k = w11.heap.size := ⟨_, rfl⟩
 clear H_d1 H_d2 H_d3 H_d4 H_za H_zb H_zq H_zr
 have H_d3 := hid d3; have H_d4 := hid d4; have H_zq := hid zq; have H_zr := hid zr; have H_kq := hid kq; have H_oq := hid oq; have H_orr := hid orr; have H_hdis := hid hdis; have H_hh12 := hid hh12; have H_zb := hid zb; clear d3 d4 zq zr kq oq orr hdis hh12 zb
 go_wp2_with (fail)
 generalize hw12 : (w11.alloc _).alloc _ = w12
 rw [← H_hh12.out]
 obtain ⟨r7, r8, f12⟩ := boxes2 w11 #[.pointer (some ⟨hq, 0, none⟩), .int .i32 s] #[.pointer (some ⟨hq + 1, 0, none⟩), .int .i32 er] 61 61 h12 H_hh12.out w12 hw12
 have d3 := rfr H_d3.out f12
 have d4 := rfr H_d4.out f12
 have i0 := rwc r7 0
 have i1 := rwc r7 1
 have i2 := rwc r8 0
 have i3 := rwc r8 1
 have p0 := rwc d3 0
 have p1 := rwc d3 1
 have p2 := rwc d4 0
 have p3 := rwc d4 1
 simp at i0 i1 i2 i3 p0 p1 p2 p3
 have s0' : w12.frozen? ⟨g + 1 + 1, 0, none⟩ = false := frozen_of_row _ _ _ _ _ d3
 have s1' : w12.frozen? ⟨g + 1 + 1, 1, none⟩ = false := frozen_of_row _ _ _ _ _ d3
 have s2' : w12.frozen? ⟨g + 1 + 1 + 1, 0, none⟩ = false := frozen_of_row _ _ _ _ _ d4
 have s3' : w12.frozen? ⟨g + 1 + 1 + 1, 1, none⟩ = false := frozen_of_row _ _ _ _ _ d4
 clear H_d3 H_d4
 have H_d3 := hid d3; have H_d4 := hid d4; have H_f12 := hid f12; have H_r7 := hid r7; have H_r8 := hid r8; have H_hw12 := hid hw12; clear d3 d4 f12 r7 r8 hw12
 have hl11 := H_zq.out.lt
 rw [← H_hh12.out] at hl11
 have hgq0 := H_hgq.out
 have ne1 : h12 ≠ g + 1 + 1 := by omega
 have ne2 : h12 + 1 ≠ g + 1 + 1 := by omega
 clear hl11 hgq0
 refine rgE (S := (fun (w' : World) => w'.cell? ⟨h12, 0, none⟩ = some (.pointer (some ⟨hq, 0, none⟩)) ∧ w'.cell? ⟨h12, 1, none⟩ = some (.int .i32 s) ∧ w'.cell? ⟨h12 + 1, 0, none⟩ = some (.pointer (some ⟨hq + 1, 0, none⟩)) ∧ w'.cell? ⟨h12 + 1, 1, none⟩ = some (.int .i32 er))) 3 (by kernel_rfl) (by exact ⟨i0, i1, i2, i3⟩) (fun hHeld => ?_)
 refine tkL (i := 0) (c := 2) (v := ?v0_4) rfl (by kernel_rfl) (fun _ _ _ h => h) ⟨by rfl, ?y0_4⟩ (by assumption) ?r0_4
 case y0_4 => (intro w hSw; go_split_ands; go_simp; try with_reducible rfl)
 try simp only [Act.put, yA, yB, yD, yE, yF]
 refine tkS (i := 1) (v := ?v1_4) rfl (by kernel_rfl) (fun _ _ _ h => h) ⟨by rfl, ?y1_4⟩ (by assumption) ?r1_4
 case y1_4 => (intro w hSw; go_split_ands; go_simp; try with_reducible rfl)
 try simp only [Act.put, yA, yB, yC, yD, yE, yF]
 refine tkO (i := 2) rfl (by kernel_rfl) (fun K hK => ?_)
 go_simp
 skip
 refine hK.out _ _ (fun _ => ?hs2_4) ?_
 case hs2_4 => exact ⟨fcl ne1 (fcl ne1 i0), fcl ne1 (fcl ne1 i1), fcl ne2 (fcl ne2 i2), fcl ne2 (fcl ne2 i3)⟩
 clear hK K
 try simp only [Act.put, yA, yB, yC, yD, yE, yF]
 refine tkO (i := 3) rfl (by kernel_rfl) (fun K hK => ?_)
 go_simp
 refine hK.out _ _ (fun h => Bool.noConfusion (show true = false from h)) ?_
 clear hK K
 try simp only [Act.put, yA, yB, yC, yD, yE, yF]
 refine tkD (by kernel_rfl) ?_ _
 go_wp2_with (fail)
 have hw13e := H_hw12.out
 have r3 := rsn (i := 1) (v := .int .i32 er) (by omega : g + 1 + 1 + 1 ≠ g + 1 + 1) (rsn (i := 0) (v := .pointer (some ⟨hq + 1, 0, none⟩)) (by omega : g + 1 + 1 + 1 ≠ g + 1 + 1) (rst (i := 1) (v := .int .i32 s) (rst (i := 0) (v := .pointer (some ⟨hq, 0, none⟩)) H_d3.out)))
 have r4 := rst (i := 1) (v := .int .i32 er) (rst (i := 0) (v := .pointer (some ⟨hq + 1, 0, none⟩)) (rsn (i := 1) (v := .int .i32 s) (by omega : g + 1 + 1 ≠ g + 1 + 1 + 1) (rsn (i := 0) (v := .pointer (some ⟨hq, 0, none⟩)) (by omega : g + 1 + 1 ≠ g + 1 + 1 + 1) H_d4.out)))
 have kf : Keep (fun k => k = g + 1 + 1 ∨ k = g + 1 + 1 + 1) w12 ((((w12.setCell ⟨g + 1 + 1, 0, none⟩ (.pointer (some ⟨hq, 0, none⟩))).setCell ⟨g + 1 + 1, 1, none⟩ (.int .i32 s)).setCell ⟨g + 1 + 1 + 1, 0, none⟩ (.pointer (some ⟨hq + 1, 0, none⟩))).setCell ⟨g + 1 + 1 + 1, 1, none⟩ (.int .i32 er)) :=
  ((((Keep.refl _ w12).setCell (p := ⟨g + 1 + 1, 0, none⟩) (fun _ => .inl rfl) _).setCell (p := ⟨g + 1 + 1, 1, none⟩) (fun _ => .inl rfl) _).setCell (p := ⟨g + 1 + 1 + 1, 0, none⟩) (fun _ => .inr rfl) _).setCell (p := ⟨g + 1 + 1 + 1, 1, none⟩) (fun _ => .inr rfl) _
 generalize hw13 : (((w12.setCell _ _).setCell _ _).setCell _ _).setCell _ _ = w13 at *
 simp at r3 r4
 refine bodyPost_ret (results_cell2 rfl _ _ (g + 1 + 1) (g + 1 + 1 + 1) rfl rfl
  (run_loadVar_row _ _ _ _ _ (0, 0) _ r3 Tryz.underlying61 rfl (by kernel_rfl)) (run_loadVar_row _ _ _ _ _ (0, 0) _ r4 Tryz.underlying61 rfl (by kernel_rfl))) rfl ?_
 have hgq := H_hgq.out
 have hgw := H_hg.out
 have hqw := H_hhq.out
 have h10s := H_f10.out.size
 have zq := (H_zq.out.fresh H_f12.out).keep kf (by omega) (fun k hk h => by have := H_oq.out k hk; omega)
 have zq := zq.fresh ((Keep.refl _ _).drew)
 have zr := (H_zr.out.fresh H_f12.out).keep kf (by omega) (fun k hk h => by have := H_orr.out k hk; omega)
 have zr := zr.fresh ((Keep.refl _ _).drew)
 have hwq := H_hwq.out
 have hbl := H_hbl.out
 have zb := (H_zb.out.fresh H_f12.out).keep kf (by omega) (fun k hk h => by have := H_ozc.out k hk; omega)
 have zb := zb.fresh ((Keep.refl _ _).drew)
 have ff : Keep (fun k => k = bb) w w13 := ((H_fw.out.trans H_kq.out (U := fun k => k = bb) (fun _ _ h => h) (fun k hk h => by omega)).trans H_f12.out (fun _ _ h => h) (fun _ _ h => h.elim)).trans kf (fun _ _ h => h) (fun k hk h => by omega)
 exact ⟨hq, vq, hq + 1, vr, _, rfl, zq, zr, zb, hwq, by omega, fun k hk => by have := H_oq.out k hk; omega, fun k hk => by have := H_orr.out k hk; omega, by omega, H_hdis.out, fun k hk => H_ozd.out k hk, ff.drew⟩

end Go.Proofs.YtllencgncinphaaGreatDoor
