/- shopspring: DivRound of two decimals. Printed by gen_dvr.py. -/
import Derived.Test.YtllencgncinphaaGreatDoorKE9
import Derived.Test.YtllencgncinphaaGreatDoorKE32
import Derived.Test.YtllencgncinphaaGreatDoorKE43
import Derived.Test.YtllencgncinphaaGreatDoorKE44
namespace Go.Proofs.YtllencgncinphaaGreatDoor
open Go.RowKit
open Go.Lib (hid)
set_option maxRecDepth 20000
set_option maxHeartbeats 16000000

theorem Sep.refl (v : Value) : Sep v v := .inl rfl

theorem wpow_dbl {n : Nat} (h : n < wpow 38) : 2 * n < wpow 39 := by
 rw [wpow_succ]; omega

theorem DivRound_go (b1 b2 : Nat) (v1 v2 : Value) (z1 e1 z2 e2 p s er Q R B : Int) (w : World) (hG : Glob w) (h0 : z2 ≠ 0) (hx1 : ZI w b1 v1 z1) (hx2 : ZI w b2 v2 z2) (hz1 : ¬ (R.natAbs + R.natAbs < B.natAbs) → z1 ≠ 0) (hQ : Q.natAbs < wpow 38) (hR : R.natAbs < wpow 38) (hB : B.natAbs < wpow 39)
 (hm : ∀ bb W, Fresh w W → ZI W bb (.slice none 0 0) 0 → b1 ≠ bb → b2 ≠ bb → Calls Tryz.prog 106 #[sd b1 e1, sd b2 e2, .int .i32 p, .pointer (some ⟨bb, 0, none⟩)] W (fun r w' => ∃ bq vq br vr vb, r = .returned (.tuple #[sd bq s, sd br er]) ∧
  ZI w' bq vq Q ∧ ZI w' br vr R ∧ ZI w' bb vb B ∧ W.heap.size ≤ bq ∧ W.heap.size ≤ br ∧ (∀ k, vq.ownBlock = some k → W.heap.size ≤ k) ∧ (∀ k, vr.ownBlock = some k → W.heap.size ≤ k) ∧ bq ≠ br ∧ (∀ k, vq.ownBlock = some k → vr.ownBlock ≠ some k) ∧ (∀ k, vb.ownBlock = some k → W.heap.size ≤ k ∨ v2.ownBlock = some k) ∧ Keep (fun k => k = bb) W w')) :
 Calls Tryz.prog 73 #[sd b1 e1, sd b2 e2, .int .i32 p] w (fun r w' => (∃ bq vq, r = .returned (sd bq s) ∧ ZI w' bq vq (if R.natAbs + R.natAbs < B.natAbs then Q else if z1 < 0 ↔ ¬ z2 < 0 then Q - 1 else Q + 1) ∧ w.heap.size ≤ bq ∧ (∀ k, vq.ownBlock = some k → w.heap.size ≤ k)) ∧ Fresh w w') := by
 obtain ⟨sb, hsb⟩ : ∃ sb : Bool, (sb = true ↔ (z1 < 0 ↔ ¬ z2 < 0)) := ⟨decide (z1 < 0 ↔ ¬ z2 < 0), decide_eq_true_iff⟩
 simp only [← hsb]
 obtain ⟨T, hT⟩ : ∃ T, T = (if R.natAbs + R.natAbs < B.natAbs then Q else if sb = true then Q - 1 else Q + 1) := ⟨_, rfl⟩
 rw [← hT]
 have hgv := fun b e W => getValue_any b e W
 have hb1 := hx1.lt
 have hb2 := hx2.lt
 have hs1 := fun W (hW : Fresh w W) => IntSign_z b1 v1 z1 W (hx1.fresh hW)
 have hs2 := fun W (hW : Fresh w W) => IntSign_z b2 v2 z2 W (hx2.fresh hW)
 obtain ⟨g1, hg1⟩ : ∃ sg, sg = (if z1 = 0 then (0 : Int) else if z1 < 0 then -1 else 1) := ⟨_, rfl⟩
 obtain ⟨g2, hg2⟩ : ∃ sg, sg = (if z2 = 0 then (0 : Int) else if z2 < 0 then -1 else 1) := ⟨_, rfl⟩
 rw [← hg1] at hs1
 rw [← hg2] at hs2
 rw [if_neg h0] at hg2
 have hpm : ¬ (R.natAbs + R.natAbs < B.natAbs) → g1 * g2 = if sb = true then -1 else 1 := by
  intro h
  simp only [hsb]
  rw [if_neg (hz1 h)] at hg1
  rw [hg1, hg2]
  by_cases k1 : z1 < 0 <;> by_cases k2 : z2 < 0 <;> simp [k1, k2]
 clear hg1 hg2 h0 hsb
 have hone := fun W (hW : NG ≤ W.heap.size) => oneInt_any W hW
 obtain ⟨cm, hcm⟩ : ∃ cm, cm = cmpN (2 * R.natAbs) B.natAbs := ⟨_, rfl⟩
 have hcl : R.natAbs + R.natAbs < B.natAbs → cm < 0 := fun h => by rw [hcm, cmpN_lt (by omega)]; decide
 have hcg : ¬ (R.natAbs + R.natAbs < B.natAbs) → ¬ cm < 0 := fun h => by
  rw [hcm]
  rcases Nat.lt_trichotomy (2 * R.natAbs) B.natAbs with k | k | k
  · omega
  · rw [k, cmpN_eq]; decide
  · rw [cmpN_gt k]; decide
 obtain ⟨g, hg⟩ : ∃ g, g = w.heap.size := ⟨_, rfl⟩
 have bx := boxes4 w #[.pointer (some ⟨b1, 0, none⟩), .int .i32 e1] #[.pointer (some ⟨b2, 0, none⟩), .int .i32 e2] #[.pointer none, .int .i32 0] #[.bool false, .slice none 0 0] 61 61 61 110 g hg
 clear hz1
 have H_bx := hid bx; have H_hm := hid hm; have H_hgv := hid hgv; have H_hx1 := hid hx1; have H_hx2 := hid hx2; have H_hG := hid hG; have H_hb1 := hid hb1; have H_hb2 := hid hb2; have H_hQ := hid hQ; have H_hR := hid hR; have H_hB := hid hB; have H_hcm := hid hcm; have H_hs1 := hid hs1; have H_hs2 := hid hs2; have H_hone := hid hone; have H_hcl := hid hcl; have H_hcg := hid hcg; have H_hpm := hid hpm; have H_hT := hid hT; clear bx hm hgv hx1 hx2 hG hb1 hb2 hQ hR hB hcm hs1 hs2 hone hcl hcg hpm hT
 go_enter Tryz.func73, Tryz.ntmps73
 go_wp2_with (fail)
 generalize hw1 : (((w.alloc _).alloc _).alloc _).alloc _ = w1
 rw [← hg]
 obtain ⟨d1, d2, d3, d4, fa⟩ := H_bx.out w1 hw1
 have k0 := rwc d1 0
 have k1 := rwc d1 1
 have m0 := rwc d2 0
 have m1 := rwc d2 1
 simp at k0 k1 m0 m1
 have hgw := hg
 have hNG := H_hG.out.size
 have hmm := H_hm.out (g + 1 + 1 + 1) w1 fa (ZI.new d4 (by omega)) (by have := H_hb1.out; omega) (by have := H_hb2.out; omega)
 have hl4 := lt_of_row d4
 clear H_bx hNG hgw d4
 have H_d1 := hid d1; have H_d2 := hid d2; have H_d3 := hid d3; have H_fa := hid fa; have H_hw1 := hid hw1; have H_hg := hid hg; have H_hmm := hid hmm; have H_hl4 := hid hl4; clear d1 d2 d3 fa hw1 hg hmm hl4
 go_wp2_with (fail)
 refine H_hmm.out.mono ?_
 rintro r w2 ⟨bq, vq, br, vr, vb, rfl, zq, zr, zb, gq, gr, oq, orr, nqr, nvv, ob, kb⟩
 clear k0 k1 m0 m1
 have hgw := H_hg.out
 have hl4 := H_hl4.out
 have fs := H_fa.out.size
 have d1 := rkp H_d1.out kb (by omega)
 have d2 := rkp H_d2.out kb (by omega)
 have d3 := rkp H_d3.out kb (by omega)
 have fa := H_fa.out.trans kb (U := fun _ => False) (fun _ _ h => h) (fun k hk h => by omega)
 obtain ⟨h, hh⟩ : ∃ h, h = w2.heap.size := ⟨_, rfl⟩
 have hqh : bq < h := by have := zq.lt; omega
 have hrh : br < h := by have := zr.lt; omega
 have hbh : g + 1 + 1 + 1 < h := by have := zb.lt; omega
 have oqh : ∀ k, vq.ownBlock = some k → g + 1 + 1 < k ∧ k < h := fun k hk => ⟨by have := oq k hk; omega, by have := zq.own_lt hk; omega⟩
 have orh : ∀ k, vr.ownBlock = some k → k < h := fun k hk => by have := zr.own_lt hk; omega
 have obh : ∀ k, vb.ownBlock = some k → k < h := fun k hk => by have := zb.own_lt hk; omega
 have gqg : g + 1 + 1 + 1 < bq := by omega
 have hsz3 : ∀ o o' o'', (((w2.alloc o).alloc o').alloc o'').heap.size = h + 1 + 1 + 1 := fun o o' o'' => by simp [hh]
 clear hgw hl4 fs gq gr oq orr ob kb nqr nvv
 clear H_d1 H_d2 H_d3 H_fa H_hl4 H_hmm
 have H_d1 := hid d1; have H_d2 := hid d2; have H_d3 := hid d3; have H_fa := hid fa; have H_zq := hid zq; have H_zr := hid zr; have H_zb := hid zb; have H_hh := hid hh; have H_hqh := hid hqh; have H_hrh := hid hrh; have H_hbh := hid hbh; have H_oqh := hid oqh; have H_orh := hid orh; have H_obh := hid obh; have H_gqg := hid gqg; have H_hsz3 := hid hsz3; clear d1 d2 d3 fa zq zr zb hh hqh hrh hbh oqh orh obh gqg hsz3
 go_wp2_with (fail)
 generalize hw3 : ((w2.alloc _).alloc _).alloc _ = w3
 rw [← H_hh.out]
 obtain ⟨r7, -, r9, f3, -⟩ := boxes3 w2 #[.pointer (some ⟨bq, 0, none⟩), .int .i32 s] #[.pointer (some ⟨br, 0, none⟩), .int .i32 er] #[.bool false, .slice none 0 0] 61 61 110 h H_hh.out w3 hw3
 have hNG := H_hG.out.size
 have hfs := H_fa.out.size
 have hh0 := H_hh.out
 have zv := ZI.new r9 (by omega)
 have hlt3 := lt_of_row r9
 clear r9 hNG hfs hh0
 have d1 := rfr H_d1.out f3
 have d2 := rfr H_d2.out f3
 have d3 := rfr H_d3.out f3
 have fa := ftr H_fa.out f3
 have zq := H_zq.out.fresh f3
 have zr := H_zr.out.fresh f3
 have zb := H_zb.out.fresh f3
 clear H_d1 H_d2 H_d3 H_fa H_zq H_zr H_zb
 have H_d1 := hid d1; have H_d2 := hid d2; have H_d3 := hid d3; have H_fa := hid fa; have H_zq := hid zq; have H_zr := hid zr; have H_zb := hid zb; have H_zv := hid zv; have H_r7 := hid r7; have H_f3 := hid f3; have H_hw3 := hid hw3; have H_hlt3 := hid hlt3; clear d1 d2 d3 fa zq zr zb zv r7 f3 hw3 hlt3
 refine (H_hgv.out _ _ _).mono ?_
 rintro r w4 ⟨rfl, f4⟩
 have d1 := rfr H_d1.out f4
 have d2 := rfr H_d2.out f4
 have d3 := rfr H_d3.out f4
 have r7 := rfr H_r7.out f4
 have fa := ftr H_fa.out f4
 have zq := H_zq.out.fresh f4
 have zr := H_zr.out.fresh f4
 have zb := H_zb.out.fresh f4
 have zv := H_zv.out.fresh f4
 have hlt4 : h + 1 + 1 < w4.heap.size := by have := H_hlt3.out; have := f4.size; omega
 clear H_d1 H_d2 H_d3 H_fa H_zq H_zr H_zb H_zv H_r7
 have habs := IntAbs_z (h + 1 + 1) br (.slice none 0 0) vr 0 R w4 (Nat.lt_of_lt_of_le H_hR.out (wpow_mono (by omega))) (by have := H_hrh.out; omega) zv zr (Sep.nil _)
 have H_d1 := hid d1; have H_d2 := hid d2; have H_d3 := hid d3; have H_fa := hid fa; have H_zq := hid zq; have H_zr := hid zr; have H_zb := hid zb; have H_zv := hid zv; have H_r7 := hid r7; have H_f4 := hid f4; have H_habs := hid habs; have H_hlt4 := hid hlt4; clear d1 d2 d3 fa zq zr zb zv r7 f4 habs hlt4
 go_wp2_with (fail)
 refine H_habs.out.mono ?_
 rintro r w5 ⟨rfl, vv, zv, kv0, ov0⟩
 have kv : Keep (fun k => k = h + 1 + 1) w4 w5 := kv0.mono (fun k _ e => e.elim id (fun e => by simp [Value.ownBlock] at e))
 have ov : ∀ k, vv.ownBlock = some k → w4.heap.size ≤ k := fun k hk => (ov0 k hk).elim (fun e => by simp [Value.ownBlock] at e) id
 clear kv0 ov0
 have ovh : ∀ k, vv.ownBlock = some k → h + 1 + 1 < k := fun k hk => by have := ov k hk; have := H_hlt4.out; omega
 have hgh := H_hbh.out
 have d1 := rkp H_d1.out kv (by omega)
 have d2 := rkp H_d2.out kv (by omega)
 have d3 := rkp H_d3.out kv (by omega)
 have r7 := rkp H_r7.out kv (by omega)
 have zq := H_zq.out.keep kv (by have := H_hqh.out; omega) (fun k hk e => by have := H_oqh.out k hk; omega)
 have zb := H_zb.out.keep kv (by omega) (fun k hk e => by have := H_obh.out k hk; omega)
 have fa := H_fa.out.trans kv (U := fun _ => False) (fun _ _ h => h) (fun k hk e => by have := H_hg.out; omega)
 clear H_d1 H_d2 H_d3 H_fa H_zq H_zr H_zb H_zv H_r7 ov hgh
 have hlsh := IntLsh_z (h + 1 + 1) R.natAbs vv w5 (Nat.lt_of_lt_of_le H_hR.out (wpow_mono (by omega))) zv
 have H_d1 := hid d1; have H_d2 := hid d2; have H_d3 := hid d3; have H_fa := hid fa; have H_zq := hid zq; have H_zb := hid zb; have H_zv := hid zv; have H_r7 := hid r7; have H_kv := hid kv; have H_ovh := hid ovh; have H_hlsh := hid hlsh; clear d1 d2 d3 fa zq zb zv r7 kv ovh hlsh
 go_wp2_with (fail)
 refine H_hlsh.out.mono ?_
 rintro r w6 ⟨rfl, v6, zv, k6, o6⟩
 have hgh := H_hbh.out
 have nk : ∀ k, k < h + 1 → ¬ (k = h + 1 + 1 ∨ vv.ownBlock = some k) := fun k hk e => e.elim (fun e => by omega) (fun e => by have := H_ovh.out k e; omega)
 have d1 := rkp H_d1.out k6 (nk _ (by omega))
 have d2 := rkp H_d2.out k6 (nk _ (by omega))
 have d3 := rkp H_d3.out k6 (nk _ (by omega))
 have r7 := rkp H_r7.out k6 (nk _ (by omega))
 have zq := H_zq.out.keep k6 (nk _ (by have := H_hqh.out; omega)) (fun k hk => nk _ (by have := H_oqh.out k hk; omega))
 have zb := H_zb.out.keep k6 (nk _ (by omega)) (fun k hk => nk _ (by have := H_obh.out k hk; omega))
 have fa := H_fa.out.trans k6 (U := fun _ => False) (fun _ _ h => h) (fun k hk e => nk k (by have := H_hg.out; omega) e)
 clear H_d1 H_d2 H_d3 H_fa H_zq H_zb H_zv H_r7 nk
 have hcmp := IntCmpAbs_z (h + 1 + 1) (g + 1 + 1 + 1) v6 vb _ B w6 (by rw [Int.natAbs_natCast]; exact wpow_dbl H_hR.out) H_hB.out zv zb
 rw [Int.natAbs_natCast, ← H_hcm.out] at hcmp
 have H_d1 := hid d1; have H_d2 := hid d2; have H_d3 := hid d3; have H_fa := hid fa; have H_zq := hid zq; have H_r7 := hid r7; have H_hcmp := hid hcmp; clear d1 d2 d3 fa zq r7 hcmp
 go_wp2_with (fail)
 refine H_hcmp.out.mono ?_
 rintro r w7 ⟨rfl, f7⟩
 have d1 := rfr H_d1.out f7
 have d2 := rfr H_d2.out f7
 have d3 := rfr H_d3.out f7
 have r7 := rfr H_r7.out f7
 have fa := ftr H_fa.out f7
 have zq := H_zq.out.fresh f7
 clear H_d1 H_d2 H_d3 H_fa H_zq H_r7
 by_cases hway : R.natAbs + R.natAbs < B.natAbs
 · have hTv : T = Q := by rw [H_hT.out, if_pos hway]
   have H_hTv := hid hTv; clear hTv
   have hc1 := H_hcl.out hway
   have hc2 : decide (cm < 0) = true := by simpa using hc1
   clear hway
   have k0 := rwc r7 0
   have k1 := rwc r7 1
   have p0 := rwc d3 0
   have p1 := rwc d3 1
   simp at k0 k1 p0 p1
   have s0' : w7.frozen? ⟨g + 1 + 1, 0, none⟩ = false := frozen_of_row _ _ _ _ _ d3
   have s1' : w7.frozen? ⟨g + 1 + 1, 1, none⟩ = false := frozen_of_row _ _ _ _ _ d3
   have H_d1 := hid d1; have H_d2 := hid d2; have H_d3 := hid d3; have H_fa := hid fa; have H_zq := hid zq; have H_r7 := hid r7; have H_f7 := hid f7; clear d1 d2 d3 fa zq r7 f7
   go_wp2_with (fail)
   have kf : Keep (fun k => k = g + 1 + 1) w7 ((w7.setCell ⟨g + 1 + 1, 0, none⟩ (.pointer (some ⟨bq, 0, none⟩))).setCell ⟨g + 1 + 1, 1, none⟩ (.int .i32 s)) := ((Keep.refl (fun k => k = g + 1 + 1) w7).setCell (p := ⟨g + 1 + 1, 0, none⟩) (fun _ => rfl) _).setCell (p := ⟨g + 1 + 1, 1, none⟩) (fun _ => rfl) _
   have r3 := rst (i := 1) (v := .int .i32 s) (rst (i := 0) (v := .pointer (some ⟨bq, 0, none⟩)) H_d3.out)
   generalize hw13 : (w7.setCell _ _).setCell _ _ = w13 at *
   simp at r3
   refine bodyPost_ret (results_cell_row rfl _ _ (g + 1 + 1) 61 #[.pointer (some ⟨bq, 0, none⟩), .int .i32 s] (0, 0) _ rfl r3 Tryz.underlying61 rfl (by kernel_rfl)) rfl ?_
   have hgw := H_hg.out
   have gqg := H_gqg.out
   rw [H_hTv.out]
   exact ⟨⟨bq, vq, rfl, H_zq.out.keep kf (by omega) (fun k hk h => by have := H_oqh.out k hk; omega), by omega, fun k hk => by have := H_oqh.out k hk; omega⟩, H_fa.out.trans kf (fun _ _ h => h) (fun k hk h => by omega)⟩
 · have hT2 : T = if sb = true then Q - 1 else Q + 1 := by rw [H_hT.out, if_neg hway]
   have H_hT2 := hid hT2; clear hT2
   have hc1 := H_hcg.out hway
   have hc2 : decide (cm < 0) = false := by simpa using hc1
   have hpv := H_hpm.out hway
   obtain ⟨P, hP⟩ : ∃ P, P = g1 * g2 := ⟨_, rfl⟩
   have hP2 : P = -1 ∨ P = 1 := by rw [hP, hpv]; split <;> simp
   have hw1 : wrap64 (g1 * g2) = P := by rw [← hP]; unfold wrap64; omega
   have hw2 : IntKind.i64.wrap (g1 * g2) = P := by rw [← hP, IntKind.wrap_i64]; omega
   obtain ⟨nb, hnb⟩ : ∃ nb, decide (P < 0) = nb := ⟨_, rfl⟩
   have hnv : sb = true → nb = true := fun h => by rw [← hnb, hP, hpv, if_pos h]; rfl
   have hnv2 : ¬ sb = true → nb = false := fun h => by rw [← hnb, hP, hpv, if_neg h]; rfl
   clear hway hpv hP hP2
   have H_hnv := hid hnv; have H_hnv2 := hid hnv2; clear hnv hnv2
   have k0 := rwc d1 0
   have k1 := rwc d1 1
   have m0 := rwc d2 0
   have m1 := rwc d2 1
   have i0 := rwc r7 0
   have i1 := rwc r7 1
   simp at k0 k1 m0 m1 i0 i1
   have hNG := H_hG.out.size
   have hfs := fa.size
   have hng7 : NG ≤ w7.heap.size := by omega
   clear hNG hfs
   have H_d1 := hid d1; have H_d2 := hid d2; have H_d3 := hid d3; have H_fa := hid fa; have H_zq := hid zq; have H_r7 := hid r7; have H_f7 := hid f7; have H_hng7 := hid hng7; clear d1 d2 d3 fa zq r7 f7 hng7
   go_wp2_with (fail)
   refine rgE (S := (fun (w' : World) => w'.cell? ⟨g, 0, none⟩ = some (.pointer (some ⟨b1, 0, none⟩)) ∧ w'.cell? ⟨g, 1, none⟩ = some (.int .i32 e1) ∧ w'.cell? ⟨g + 1, 0, none⟩ = some (.pointer (some ⟨b2, 0, none⟩)) ∧ w'.cell? ⟨g + 1, 1, none⟩ = some (.int .i32 e2))) 4 (by kernel_rfl) (by exact ⟨k0, k1, m0, m1⟩) (fun hHeld => ?_)
   refine tkS (i := 3) (v := ?v3_1) rfl (by kernel_rfl) (fun _ _ _ h => h) ⟨by rfl, ?y3_1⟩ (by assumption) ?r3_1
   case y3_1 => (intro w hSw; go_split_ands; go_simp; try with_reducible rfl)
   try simp only [Act.put, yA, yB, yC, yD, yE, yF]
   refine tkO (i := 0) rfl (by kernel_rfl) (fun K hK => ?_)
   go_simp
   refine hK.out _ _ (fun _ => hHeld) ?_
   clear hK K
   try simp only [Act.put, yA, yB, yC, yD, yE, yF]
   refine tkO (i := 1) rfl (by kernel_rfl) (fun K hK => ?_)
   go_simp
   refine (H_hgv.out _ _ _).mono ?_; rintro r y1 ⟨rfl, r⟩; have y := r.of_drew; have k0a := cfr k0 y; have k1a := cfr k1 y; have m0a := cfr m0 y; have m1a := cfr m1 y; have H_y1 := hid y; clear y r
   go_wp2_with (fail)
   have hHeld1 : ((fun (w' : World) => w'.cell? ⟨g, 0, none⟩ = some (.pointer (some ⟨b1, 0, none⟩)) ∧ w'.cell? ⟨g, 1, none⟩ = some (.int .i32 e1) ∧ w'.cell? ⟨g + 1, 0, none⟩ = some (.pointer (some ⟨b2, 0, none⟩)) ∧ w'.cell? ⟨g + 1, 1, none⟩ = some (.int .i32 e2))) _ := ⟨k0a, k1a, m0a, m1a⟩
   refine hK.out _ _ (fun _ => hHeld1) ?_
   clear hK K
   try simp only [Act.put, yA, yB, yC, yD, yE, yF]
   refine tkO (i := 2) rfl (by kernel_rfl) (fun K hK => ?_)
   go_simp
   refine (H_hs1.out _ (ftr H_fa.out H_y1.out)).mono ?_; rintro r y2 ⟨rfl, hy2⟩; obtain rfl : y1 = y2 := hy2.symm; skip
   go_wp2_with (fail)
   have hHeld2 : ((fun (w' : World) => w'.cell? ⟨g, 0, none⟩ = some (.pointer (some ⟨b1, 0, none⟩)) ∧ w'.cell? ⟨g, 1, none⟩ = some (.int .i32 e1) ∧ w'.cell? ⟨g + 1, 0, none⟩ = some (.pointer (some ⟨b2, 0, none⟩)) ∧ w'.cell? ⟨g + 1, 1, none⟩ = some (.int .i32 e2))) _ := ⟨k0a, k1a, m0a, m1a⟩
   refine hK.out _ _ (fun _ => hHeld2) ?_
   clear hK K
   try simp only [Act.put, yA, yB, yC, yD, yE, yF]
   refine tkO (i := 4) rfl (by kernel_rfl) (fun K hK => ?_)
   go_simp
   refine (H_hgv.out _ _ _).mono ?_; rintro r y3 ⟨rfl, y⟩; have k0b := cfr k0a y; have k1b := cfr k1a y; have m0b := cfr m0a y; have m1b := cfr m1a y; have H_y3 := hid (ftr H_y1.out y); clear y
   go_wp2_with (fail)
   refine hK.out _ _ (fun h => Bool.noConfusion (show true = false from h)) ?_
   clear hK K
   try simp only [Act.put, yA, yB, yC, yD, yE, yF]
   refine tkO (i := 5) rfl (by kernel_rfl) (fun K hK => ?_)
   go_simp
   refine (H_hs2.out _ (ftr H_fa.out H_y3.out)).mono ?_; rintro r y4 ⟨rfl, hy4⟩; obtain rfl : y3 = y4 := hy4.symm; skip
   go_wp2_with (fail)
   refine hK.out _ _ (fun h => Bool.noConfusion (show true = false from h)) ?_
   clear hK K
   try simp only [Act.put, yA, yB, yC, yD, yE, yF]
   refine tkO (i := 6) rfl (by kernel_rfl) (fun K hK => ?_)
   go_simp
   refine hK.out _ _ (fun h => Bool.noConfusion (show true = false from h)) ?_
   clear hK K
   try simp only [Act.put, yA, yB, yC, yD, yE, yF]
   refine tkO (i := 7) rfl (by kernel_rfl) (fun K hK => ?_)
   go_simp
   refine hK.out _ _ (fun h => Bool.noConfusion (show true = false from h)) ?_
   clear hK K
   try simp only [Act.put, yA, yB, yC, yD, yE, yF]
   refine tkD (by kernel_rfl) ?_ _
   have j0 := cfr i0 H_y3.out
   have j1 := cfr i1 H_y3.out
   clear i0 i1 k0 k1 m0 m1 k0a k1a m0a m1a k0b k1b m0b m1b
   have d3 := rfr H_d3.out H_y3.out
   have r7 := rfr H_r7.out H_y3.out
   have fa := ftr H_fa.out H_y3.out
   have zq := H_zq.out.fresh H_y3.out
   have hng8 : NG ≤ y3.heap.size := by have h1 := H_hng7.out; have h2 := H_y3.out.size; omega
   clear H_d1 H_d2 H_d3 H_r7 H_fa H_zq
   have H_d3 := hid d3; have H_r7 := hid r7; have H_fa := hid fa; have H_zq := hid zq; have H_hng8 := hid hng8; clear d3 r7 fa zq hng8
   clear hnb
   by_cases hsn : sb = true
   · have hTv : T = Q - 1 := by rw [H_hT2.out, if_pos hsn]
     have H_hTv := hid hTv; clear hTv
     obtain rfl := H_hnv.out hsn
     go_wp2_with (fail)
     refine rgE (S := (fun (w' : World) => w'.cell? ⟨h, 0, none⟩ = some (.pointer (some ⟨bq, 0, none⟩)) ∧ w'.cell? ⟨h, 1, none⟩ = some (.int .i32 s))) 5 (by kernel_rfl) (by exact ⟨j0, j1⟩) (fun hHeld => ?_)
     refine tkP (i := 0) (v := ?v0_2) rfl (by kernel_rfl) (fun _ _ _ h => h) ⟨by rfl, ?y0_2⟩ (by assumption) ?r0_2
     case y0_2 => (intro w; go_simp; try with_reducible rfl)
     try simp only [Act.put, yA, yB, yD, yE, yF]
     refine tkS (i := 1) (v := ?v1_2) rfl (by kernel_rfl) (fun _ _ _ h => h) ⟨by rfl, ?y1_2⟩ (by assumption) ?r1_2
     case y1_2 => (intro w hSw; go_split_ands; go_simp; try with_reducible rfl)
     try simp only [Act.put, yA, yB, yC, yD, yE, yF]
     refine tkP (i := 2) (v := ?v2_2) rfl (by kernel_rfl) (fun _ _ _ h => h) ⟨by rfl, ?y2_2⟩ (by assumption) ?r2_2
     case y2_2 => (intro w; go_simp; try with_reducible rfl)
     try simp only [Act.put, yA, yB, yC, yD, yE, yF]
     refine tkS (i := 3) (v := ?v3_2) rfl (by kernel_rfl) (fun _ _ _ h => h) ⟨by rfl, ?y3_2⟩ (by assumption) ?r3_2
     case y3_2 => (intro w hSw; go_split_ands; go_simp; try with_reducible rfl)
     try simp only [Act.put, yA, yB, yC, yD, yE, yF]
     refine tkO (i := 4) rfl (by kernel_rfl) (fun K hK => ?_)
     go_simp
     refine (H_hone.out _ (show NG ≤ y3.drew.heap.size from H_hng8.out)).mono ?_; rintro r y5 ⟨bo, vo, rfl, zo, r, go, oo⟩; have y := r.of_drew; have go' : y3.heap.size ≤ bo := go; have oo' : ∀ k, vo.ownBlock = some k → y3.heap.size ≤ k := oo; have l0 := cfr j0 y; have l1 := cfr j1 y; have zq := H_zq.out.fresh y; have hlq := H_zq.out.lt; have hop := IntSub_z bq bq bo vq vq vo Q Q 1 y5 (Nat.lt_of_lt_of_le H_hQ.out (wpow_mono (by omega))) (by decide) zq zq zo (Sep.refl _) (.inr (fun k hk hk' => by have h1 := oo' k hk'; have h2 := H_zq.out.own_lt hk; omega)); have H_hop := hid hop; have H_y5 := hid y; clear y r go go' oo oo' zo zq hop hlq
     go_wp2_with (fail)
     have hHeld1 : ((fun (w' : World) => w'.cell? ⟨h, 0, none⟩ = some (.pointer (some ⟨bq, 0, none⟩)) ∧ w'.cell? ⟨h, 1, none⟩ = some (.int .i32 s))) _ := ⟨l0, l1⟩
     refine hK.out _ _ (fun _ => hHeld1) ?_
     clear hK K
     try simp only [Act.put, yA, yB, yC, yD, yE, yF]
     refine tkO (i := 5) rfl (by kernel_rfl) (fun K hK => ?_)
     go_simp
     refine H_hop.out.mono ?_; rintro r y6 ⟨rfl, vz, zz, kz, oz⟩; have hg0 := H_hbh.out; have hq0 := H_hqh.out; have hq1 := H_gqg.out; have nk : ∀ k, (k ≤ g + 1 + 1 ∨ h ≤ k ∧ k < h + 1) → ¬ (k = bq ∨ vq.ownBlock = some k) := fun k hk e => e.elim (fun e => by omega) (fun e => by have := H_oqh.out k e; omega); have d3 := rkp (rfr H_d3.out H_y5.out) kz (nk _ (by omega)); have r7 := rkp (rfr H_r7.out H_y5.out) kz (nk _ (by omega)); have fa := (ftr H_fa.out H_y5.out).trans kz (U := fun _ => False) (fun _ _ h => h) (fun k hk e => nk k (by have := H_hg.out; omega) e); have ozg : ∀ k, vz.ownBlock = some k → g + 1 + 1 < k := fun k hk => (oz k hk).elim (fun e => (H_oqh.out k e).1) (fun e => by have h1 := H_y5.out.size; have h2 := (lt_of_row H_r7.out); omega); have H_d3x := hid d3; have H_r7x := hid r7; have H_fax := hid fa; have H_zzx := hid zz; have H_ozg := hid ozg; clear d3 r7 fa zz ozg kz oz nk hg0 hq0 hq1
     go_wp2_with (fail)
     refine hK.out _ _ (fun h => Bool.noConfusion (show true = false from h)) ?_
     clear hK K
     try simp only [Act.put, yA, yB, yC, yD, yE, yF]
     refine tkD (by kernel_rfl) ?_ _
     have i0 := rwc H_r7x.out 0
     have i1 := rwc H_r7x.out 1
     have p0 := rwc H_d3x.out 0
     have p1 := rwc H_d3x.out 1
     simp at i0 i1 p0 p1
     have s0' : y6.frozen? ⟨g + 1 + 1, 0, none⟩ = false := frozen_of_row _ _ _ _ _ H_d3x.out
     have s1' : y6.frozen? ⟨g + 1 + 1, 1, none⟩ = false := frozen_of_row _ _ _ _ _ H_d3x.out
     clear j0 j1 l0 l1
     go_wp2_with (fail)
     have kf : Keep (fun k => k = g + 1 + 1) y6 ((y6.setCell ⟨g + 1 + 1, 0, none⟩ (.pointer (some ⟨bq, 0, none⟩))).setCell ⟨g + 1 + 1, 1, none⟩ (.int .i32 s)) := ((Keep.refl (fun k => k = g + 1 + 1) y6).setCell (p := ⟨g + 1 + 1, 0, none⟩) (fun _ => rfl) _).setCell (p := ⟨g + 1 + 1, 1, none⟩) (fun _ => rfl) _
     have r3 := rst (i := 1) (v := .int .i32 s) (rst (i := 0) (v := .pointer (some ⟨bq, 0, none⟩)) H_d3x.out)
     generalize hw13 : (y6.setCell _ _).setCell _ _ = w13 at *
     simp at r3
     refine bodyPost_ret (results_cell_row rfl _ _ (g + 1 + 1) 61 #[.pointer (some ⟨bq, 0, none⟩), .int .i32 s] (0, 0) _ rfl r3 Tryz.underlying61 rfl (by kernel_rfl)) rfl ?_
     have hgw := H_hg.out
     have gqg := H_gqg.out
     rw [H_hTv.out]
     exact ⟨⟨bq, vz, rfl, H_zzx.out.keep kf (by omega) (fun k hk h => by have := H_ozg.out k hk; omega), by omega, fun k hk => by have := H_ozg.out k hk; omega⟩, H_fax.out.trans kf (fun _ _ h => h) (fun k hk h => by omega)⟩
   · have hTv : T = Q + 1 := by rw [H_hT2.out, if_neg hsn]
     have H_hTv := hid hTv; clear hTv
     obtain rfl := H_hnv2.out hsn
     go_wp2_with (fail)
     refine rgE (S := (fun (w' : World) => w'.cell? ⟨h, 0, none⟩ = some (.pointer (some ⟨bq, 0, none⟩)) ∧ w'.cell? ⟨h, 1, none⟩ = some (.int .i32 s))) 5 (by kernel_rfl) (by exact ⟨j0, j1⟩) (fun hHeld => ?_)
     refine tkP (i := 0) (v := ?v0_3) rfl (by kernel_rfl) (fun _ _ _ h => h) ⟨by rfl, ?y0_3⟩ (by assumption) ?r0_3
     case y0_3 => (intro w; go_simp; try with_reducible rfl)
     try simp only [Act.put, yA, yB, yD, yE, yF]
     refine tkS (i := 1) (v := ?v1_3) rfl (by kernel_rfl) (fun _ _ _ h => h) ⟨by rfl, ?y1_3⟩ (by assumption) ?r1_3
     case y1_3 => (intro w hSw; go_split_ands; go_simp; try with_reducible rfl)
     try simp only [Act.put, yA, yB, yC, yD, yE, yF]
     refine tkP (i := 2) (v := ?v2_3) rfl (by kernel_rfl) (fun _ _ _ h => h) ⟨by rfl, ?y2_3⟩ (by assumption) ?r2_3
     case y2_3 => (intro w; go_simp; try with_reducible rfl)
     try simp only [Act.put, yA, yB, yC, yD, yE, yF]
     refine tkS (i := 3) (v := ?v3_3) rfl (by kernel_rfl) (fun _ _ _ h => h) ⟨by rfl, ?y3_3⟩ (by assumption) ?r3_3
     case y3_3 => (intro w hSw; go_split_ands; go_simp; try with_reducible rfl)
     try simp only [Act.put, yA, yB, yC, yD, yE, yF]
     refine tkO (i := 4) rfl (by kernel_rfl) (fun K hK => ?_)
     go_simp
     refine (H_hone.out _ (show NG ≤ y3.drew.heap.size from H_hng8.out)).mono ?_; rintro r y5 ⟨bo, vo, rfl, zo, r, go, oo⟩; have y := r.of_drew; have go' : y3.heap.size ≤ bo := go; have oo' : ∀ k, vo.ownBlock = some k → y3.heap.size ≤ k := oo; have l0 := cfr j0 y; have l1 := cfr j1 y; have zq := H_zq.out.fresh y; have hlq := H_zq.out.lt; have hop := IntAdd_z bq bq bo vq vq vo Q Q 1 y5 (Nat.lt_of_lt_of_le H_hQ.out (wpow_mono (by omega))) (by decide) zq zq zo (Sep.refl _) (.inr (fun k hk hk' => by have h1 := oo' k hk'; have h2 := H_zq.out.own_lt hk; omega)); have H_hop := hid hop; have H_y5 := hid y; clear y r go go' oo oo' zo zq hop hlq
     go_wp2_with (fail)
     have hHeld1 : ((fun (w' : World) => w'.cell? ⟨h, 0, none⟩ = some (.pointer (some ⟨bq, 0, none⟩)) ∧ w'.cell? ⟨h, 1, none⟩ = some (.int .i32 s))) _ := ⟨l0, l1⟩
     refine hK.out _ _ (fun _ => hHeld1) ?_
     clear hK K
     try simp only [Act.put, yA, yB, yC, yD, yE, yF]
     refine tkO (i := 5) rfl (by kernel_rfl) (fun K hK => ?_)
     go_simp
     refine H_hop.out.mono ?_; rintro r y6 ⟨rfl, vz, zz, kz, oz⟩; have hg0 := H_hbh.out; have hq0 := H_hqh.out; have hq1 := H_gqg.out; have nk : ∀ k, (k ≤ g + 1 + 1 ∨ h ≤ k ∧ k < h + 1) → ¬ (k = bq ∨ vq.ownBlock = some k) := fun k hk e => e.elim (fun e => by omega) (fun e => by have := H_oqh.out k e; omega); have d3 := rkp (rfr H_d3.out H_y5.out) kz (nk _ (by omega)); have r7 := rkp (rfr H_r7.out H_y5.out) kz (nk _ (by omega)); have fa := (ftr H_fa.out H_y5.out).trans kz (U := fun _ => False) (fun _ _ h => h) (fun k hk e => nk k (by have := H_hg.out; omega) e); have ozg : ∀ k, vz.ownBlock = some k → g + 1 + 1 < k := fun k hk => (oz k hk).elim (fun e => (H_oqh.out k e).1) (fun e => by have h1 := H_y5.out.size; have h2 := (lt_of_row H_r7.out); omega); have H_d3x := hid d3; have H_r7x := hid r7; have H_fax := hid fa; have H_zzx := hid zz; have H_ozg := hid ozg; clear d3 r7 fa zz ozg kz oz nk hg0 hq0 hq1
     go_wp2_with (fail)
     refine hK.out _ _ (fun h => Bool.noConfusion (show true = false from h)) ?_
     clear hK K
     try simp only [Act.put, yA, yB, yC, yD, yE, yF]
     refine tkD (by kernel_rfl) ?_ _
     have i0 := rwc H_r7x.out 0
     have i1 := rwc H_r7x.out 1
     have p0 := rwc H_d3x.out 0
     have p1 := rwc H_d3x.out 1
     simp at i0 i1 p0 p1
     have s0' : y6.frozen? ⟨g + 1 + 1, 0, none⟩ = false := frozen_of_row _ _ _ _ _ H_d3x.out
     have s1' : y6.frozen? ⟨g + 1 + 1, 1, none⟩ = false := frozen_of_row _ _ _ _ _ H_d3x.out
     clear j0 j1 l0 l1
     go_wp2_with (fail)
     have kf : Keep (fun k => k = g + 1 + 1) y6 ((y6.setCell ⟨g + 1 + 1, 0, none⟩ (.pointer (some ⟨bq, 0, none⟩))).setCell ⟨g + 1 + 1, 1, none⟩ (.int .i32 s)) := ((Keep.refl (fun k => k = g + 1 + 1) y6).setCell (p := ⟨g + 1 + 1, 0, none⟩) (fun _ => rfl) _).setCell (p := ⟨g + 1 + 1, 1, none⟩) (fun _ => rfl) _
     have r3 := rst (i := 1) (v := .int .i32 s) (rst (i := 0) (v := .pointer (some ⟨bq, 0, none⟩)) H_d3x.out)
     generalize hw13 : (y6.setCell _ _).setCell _ _ = w13 at *
     simp at r3
     refine bodyPost_ret (results_cell_row rfl _ _ (g + 1 + 1) 61 #[.pointer (some ⟨bq, 0, none⟩), .int .i32 s] (0, 0) _ rfl r3 Tryz.underlying61 rfl (by kernel_rfl)) rfl ?_
     have hgw := H_hg.out
     have gqg := H_gqg.out
     rw [H_hTv.out]
     exact ⟨⟨bq, vz, rfl, H_zzx.out.keep kf (by omega) (fun k hk h => by have := H_ozg.out k hk; omega), by omega, fun k hk => by have := H_ozg.out k hk; omega⟩, H_fax.out.trans kf (fun _ _ h => h) (fun k hk h => by omega)⟩

theorem qA_w {z E : Int} (hz : z.natAbs < wpow 10) (hE : E ≤ 255) : (qA z E).natAbs < wpow 24 := by
 rw [qA_abs]
 have h1 := pow10_words14 (p := E.toNat) (by omega)
 have h2 : wpow 10 * wpow 14 = wpow 24 := by rw [← wpow_add]
 rw [← h2]
 exact Nat.mul_lt_mul_of_lt_of_le hz (Nat.le_of_lt h1) (wpow_pos _)

theorem qB_w {z E : Int} (hz : z.natAbs < wpow 10) (hE : -255 ≤ E) : (qB z E).natAbs < wpow 24 := by
 have := qA_w (z := z) (E := -E) hz (by omega)
 exact this

theorem qB_ne {z E : Int} (h : z ≠ 0) : qB z E ≠ 0 := by
 intro e
 have := qB_abs z E
 rw [e] at this
 have hp : 0 < 10 ^ (-E).toNat := Nat.pow_pos (by omega)
 rcases Nat.mul_eq_zero.1 this.symm with h' | h' <;> omega

theorem DivRound_ok (b1 b2 : Nat) (v1 v2 : Value) (z1 e1 z2 e2 p s E : Int) (w : World) (hG : Glob w) (hz1 : z1.natAbs < wpow 10) (hz2 : z2.natAbs < wpow 10) (h0 : z2 ≠ 0) (hx1 : ZI w b1 v1 z1) (hx2 : ZI w b2 v2 z2)
 (he1 : -400 ≤ e1 ∧ e1 ≤ 400) (he2 : -400 ≤ e2 ∧ e2 ≤ 400) (hp : -400 ≤ p ∧ p ≤ 400) (hs : s = -p) (hE : E = e1 - e2 - s) (hEb : -255 ≤ E ∧ E ≤ 255) :
 Calls Tryz.prog 73 #[sd b1 e1, sd b2 e2, .int .i32 p] w (fun r w' => (∃ bq vq, r = .returned (sd bq s) ∧ ZI w' bq vq (drZ z1 z2 (qA z1 E) (qB z2 E)) ∧ w.heap.size ≤ bq ∧ (∀ k, vq.ownBlock = some k → w.heap.size ≤ k)) ∧ Fresh w w') := by
 have hm := fun bb W (hW : Fresh w W) (hbb : ZI W bb (.slice none 0 0) 0) (n1 : b1 ≠ bb) (n2 : b2 ≠ bb) => quoRem_b b1 b2 bb v1 v2 z1 e1 z2 e2 p s E W (hG.fresh hW) hz1 hz2 h0 (hx1.fresh hW) (hx2.fresh hW) he1 he2 hp hs hE hEb hbb n1 n2
 have hA := qA_w (E := E) hz1 (by omega)
 have hB : (qB z2 E).natAbs < wpow 39 := Nat.lt_of_lt_of_le (qB_w (E := E) hz2 (by omega)) (wpow_mono (by omega))
 have hQ : ((qA z1 E).tdiv (qB z2 E)).natAbs < wpow 38 := by
  rw [Int.natAbs_tdiv]
  exact Nat.lt_of_le_of_lt (Nat.div_le_self _ _) (Nat.lt_of_lt_of_le hA (wpow_mono (by omega)))
 have hR : ((qA z1 E).tmod (qB z2 E)).natAbs < wpow 38 := by
  rw [tmod_abs]
  exact Nat.lt_of_le_of_lt (Nat.mod_le _ _) (Nat.lt_of_lt_of_le hA (wpow_mono (by omega)))
 unfold drZ
 refine DivRound_go b1 b2 v1 v2 z1 e1 z2 e2 p s _ _ _ _ w hG h0 hx1 hx2 (fun h => ?_) hQ hR hB hm
 refine qA_zero (e := E) (fun e0 => h ?_)
 rw [e0, Int.zero_tmod]
 have := qB_ne (E := E) h0
 show 0 + 0 < _
 omega

theorem DivRound_zero (b1 b2 : Nat) (v2 : Value) (e1 e2 p : Int) (w : World) (hx2 : ZI w b2 v2 0) :
 Calls Tryz.prog 73 #[sd b1 e1, sd b2 e2, .int .i32 p] w (fun r w' => (∃ u pv, r = .panicked [{ v := .iface u pv, recovered := false }]) ∧ Fresh w w') := by
 have hm := fun bb W (hW : Fresh w W) => quoRem_zero b1 b2 v2 e1 e2 p (.pointer (some bb)) (.inr ⟨bb, rfl⟩) W (hx2.fresh hW)
 obtain ⟨g, hg⟩ : ∃ g, g = w.heap.size := ⟨_, rfl⟩
 have bx := boxes4 w #[.pointer (some ⟨b1, 0, none⟩), .int .i32 e1] #[.pointer (some ⟨b2, 0, none⟩), .int .i32 e2] #[.pointer none, .int .i32 0] #[.bool false, .slice none 0 0] 61 61 61 110 g hg
 have H_bx := hid bx; have H_hm := hid hm; have H_hx2 := hid hx2; clear bx hm hx2
 go_enter Tryz.func73, Tryz.ntmps73
 go_wp2_with (fail)
 generalize hw1 : (((w.alloc _).alloc _).alloc _).alloc _ = w1
 rw [← hg]
 obtain ⟨d1, d2, -, -, fa⟩ := H_bx.out w1 hw1
 have k0 := rwc d1 0
 have k1 := rwc d1 1
 have m0 := rwc d2 0
 have m1 := rwc d2 1
 simp at k0 k1 m0 m1
 clear H_bx d1 d2
 have H_fa := hid fa; have H_hw1 := hid hw1; have H_hg := hid hg; clear fa hw1 hg
 go_wp2_with (fail)
 refine (H_hm.out _ _ H_fa.out).mono ?_
 rintro r w2 ⟨⟨u, pv, rfl⟩, f2⟩
 clear k0 k1 m0 m1
 have fa := ftr H_fa.out f2
 clear H_fa
 have H_fa := hid fa; have H_f2 := hid f2; clear fa f2
 go_wp2_with (fail)
 exact ⟨rfl, ⟨_, _, rfl⟩, H_fa.out⟩

def DivP (w : World) : Prop := w.cell? ⟨0, 0, none⟩ = some (.int .i64 16)

theorem DivP.fresh {w w' : World} (h : DivP w) (hk : Fresh w w') : DivP w' := cfr h hk

theorem Div_ok (b1 b2 : Nat) (v1 v2 : Value) (z1 e1 z2 e2 E : Int) (w : World) (hG : Glob w) (hV : DivP w) (hz1 : z1.natAbs < wpow 10) (hz2 : z2.natAbs < wpow 10) (h0 : z2 ≠ 0) (hx1 : ZI w b1 v1 z1) (hx2 : ZI w b2 v2 z2)
 (he1 : -400 ≤ e1 ∧ e1 ≤ 400) (he2 : -400 ≤ e2 ∧ e2 ≤ 400) (hE : E = e1 - e2 + 16) (hEb : -255 ≤ E ∧ E ≤ 255) :
 Calls Tryz.prog 75 #[sd b1 e1, sd b2 e2] w (fun r w' => (∃ bq vq, r = .returned (sd bq (-16)) ∧ ZI w' bq vq (drZ z1 z2 (qA z1 E) (qB z2 E)) ∧ w.heap.size ≤ bq ∧ (∀ k, vq.ownBlock = some k → w.heap.size ≤ k)) ∧ Fresh w w') := by
 have hm := fun W (hW : Fresh w W) => DivRound_ok b1 b2 v1 v2 z1 e1 z2 e2 16 (-16) E W (hG.fresh hW) hz1 hz2 h0 (hx1.fresh hW) (hx2.fresh hW) he1 he2 (by omega) rfl (by omega) hEb
 generalize drZ z1 z2 (qA z1 E) (qB z2 E) = Q at *
 obtain ⟨g, hg⟩ : ∃ g, g = w.heap.size := ⟨_, rfl⟩
 have bx := boxes3 w #[.pointer (some ⟨b1, 0, none⟩), .int .i32 e1] #[.pointer (some ⟨b2, 0, none⟩), .int .i32 e2] #[.pointer none, .int .i32 0] 61 61 61 g hg
 have a1 := fun o => hV.fresh ((Keep.refl (fun _ => False) w).alloc o)
 have a2 := fun o o' => hV.fresh (((Keep.refl (fun _ => False) w).alloc o).alloc o')
 have a3 := fun o o' o'' => hV.fresh ((((Keep.refl (fun _ => False) w).alloc o).alloc o').alloc o'')
 unfold DivP at a1 a2 a3
 clear hG hz1 hz2 h0 hx1 hx2 he1 he2 hE hEb
 have H_bx := hid bx; have H_hm := hid hm; have H_hV := hid hV; clear bx hm hV
 go_enter Tryz.func75, Tryz.ntmps75
 go_wp2_with (fail)
 generalize hw1 : ((w.alloc _).alloc _).alloc _ = w1
 rw [← hg]
 obtain ⟨-, -, d3, fa, -⟩ := H_bx.out w1 hw1
 clear H_bx a1 a2 a3
 have H_d3 := hid d3; have H_fa := hid fa; have H_hw1 := hid hw1; have H_hg := hid hg; clear d3 fa hw1 hg
 refine (H_hm.out _ H_fa.out).mono ?_
 rintro r w2 ⟨⟨bq, vq, rfl, zq, gq, oq⟩, f2⟩
 have hl3 := lt_of_row H_d3.out
 have d3 := rfr H_d3.out f2
 have p0 := rwc d3 0
 have p1 := rwc d3 1
 simp at p0 p1
 have s0' : w2.frozen? ⟨g + 1 + 1, 0, none⟩ = false := frozen_of_row _ _ _ _ _ d3
 have s1' : w2.frozen? ⟨g + 1 + 1, 1, none⟩ = false := frozen_of_row _ _ _ _ _ d3
 clear H_d3
 have H_d3 := hid d3; have H_f2 := hid f2; have H_zq := hid zq; have H_hl3 := hid hl3; have H_gq := hid gq; have H_oq := hid oq; clear d3 f2 zq hl3 gq oq
 go_wp2_with (fail)
 have kf : Keep (fun k => k = g + 1 + 1) w2 ((w2.setCell ⟨g + 1 + 1, 0, none⟩ (.pointer (some ⟨bq, 0, none⟩))).setCell ⟨g + 1 + 1, 1, none⟩ (.int .i32 (-16))) := ((Keep.refl (fun k => k = g + 1 + 1) w2).setCell (p := ⟨g + 1 + 1, 0, none⟩) (fun _ => rfl) _).setCell (p := ⟨g + 1 + 1, 1, none⟩) (fun _ => rfl) _
 have r3 := rst (i := 1) (v := .int .i32 (-16)) (rst (i := 0) (v := .pointer (some ⟨bq, 0, none⟩)) H_d3.out)
 generalize hw13 : (w2.setCell _ _).setCell _ _ = w13 at *
 simp at r3
 refine bodyPost_ret (results_cell_row rfl _ _ (g + 1 + 1) 61 #[.pointer (some ⟨bq, 0, none⟩), .int .i32 (-16)] (0, 0) _ rfl r3 Tryz.underlying61 rfl (by kernel_rfl)) rfl ?_
 have hgw := H_hg.out
 have hl3 := H_hl3.out
 have gq := H_gq.out
 have hfs := H_fa.out.size
 exact ⟨⟨bq, vq, rfl, H_zq.out.keep kf (by omega) (fun k hk h => by have := H_oq.out k hk; omega), by omega, fun k hk => by have := H_oq.out k hk; omega⟩, (ftr H_fa.out H_f2.out).trans kf (fun _ _ h => h) (fun k hk h => by omega)⟩

theorem Div_zero (b1 b2 : Nat) (v2 : Value) (e1 e2 : Int) (w : World) (hV : DivP w) (hx2 : ZI w b2 v2 0) :
 Calls Tryz.prog 75 #[sd b1 e1, sd b2 e2] w (fun r w' => (∃ u pv, r = .panicked [{ v := .iface u pv, recovered := false }]) ∧ Fresh w w') := by
 have hm := fun W (hW : Fresh w W) => DivRound_zero b1 b2 v2 e1 e2 16 W (hx2.fresh hW)
 have a1 := fun o => hV.fresh ((Keep.refl (fun _ => False) w).alloc o)
 have a2 := fun o o' => hV.fresh (((Keep.refl (fun _ => False) w).alloc o).alloc o')
 have a3 := fun o o' o'' => hV.fresh ((((Keep.refl (fun _ => False) w).alloc o).alloc o').alloc o'')
 have hfr := fun o o' o'' => (((Keep.refl (fun _ => False) w).alloc o).alloc o').alloc o''
 unfold DivP at a1 a2 a3
 have H_hm := hid hm; have H_hV := hid hV; have H_hx2 := hid hx2; have H_hfr := hid hfr; clear hm hV hx2 hfr
 go_enter Tryz.func75, Tryz.ntmps75
 go_wp2_with (fail)
 refine (H_hm.out _ (H_hfr.out _ _ _)).mono ?_
 rintro r w2 ⟨⟨u, pv, rfl⟩, f2⟩
 have f2 := ftr (H_hfr.out _ _ _) f2
 clear a1 a2 a3
 have H_f2 := hid f2; clear f2
 go_wp2_with (fail)
 exact ⟨rfl, ⟨_, _, rfl⟩, H_f2.out⟩

abbrev dd (z e : Int) : Value := .agg #[.string (bstr (wdig z)), .int .i64 e]

end Go.Proofs.YtllencgncinphaaGreatDoor
