/- The contracts of the reference's natural numbers: NatDiv. -/
import Derived.Test.YtllencgncinphaaGreatDoorKE9
import Derived.Test.YtllencgncinphaaGreatDoorKE14
import Derived.Test.YtllencgncinphaaGreatDoorKE15
namespace Go.Proofs.YtllencgncinphaaGreatDoor
open Go.RowKit
open Go.Lib (hid)
set_option maxRecDepth 20000
set_option maxHeartbeats 8000000

theorem SNat.lit {w : World} {x : Nat} {T : TypeId} (hx : x < 1000000000) : SNat (w.alloc (.cells #[.int .u32 (x : Int)] T)) (.slice (some ⟨w.heap.size, 0, none⟩) 1 1) [x] :=
 SNat.of_blk (Blk.lit (L := [x]) (T := T)) (Lim.one hx) (by simp)

theorem SNat.src {w : World} {g c : Nat} {l : List Nat} (h : SNat w (.slice (some ⟨g, 0, none⟩) l.length c) l) : ∀ j u, (l.map (wd .u32))[j]? = some u → w.cell? ((⟨g, 0, none⟩ : Addr).add j) = some u := fun j u hj => by
 have hj' : j < l.length := by
  have := (List.getElem?_eq_some_iff.1 hj).1
  simpa using this
 obtain ⟨g', cap', he, _, _, _, hc⟩ := h.open_pos (by omega)
 cases he
 have h6 := hc j hj'
 have h7 : ((⟨g, 0, none⟩ : Addr).add j) = ⟨g, j, none⟩ := by simp [Addr.add]; intro h; simp [h]
 rw [h7, h6, ← hj]
 simp [List.getD, hj']

theorem digit_eq {P R y d : Nat} (hy : 0 < y) (hP : P = y * d) (hge : R / y ≤ d) (hle : P ≤ R) : d = R / y := by
 have h1 : d ≤ R / y := by rw [Nat.le_div_iff_mul_le hy, Nat.mul_comm]; omega
 omega

theorem NatDiv_long (av bv : Value) (al bl : List Nat) (w : World) (ha : SNat w av al) (hb : SNat w bv bl) (hna : Norm al) (hnb : Norm bl) (hlen : al.length ≤ 1000) (hb1 : 1 < bl.length) (hge : sval bl ≤ sval al) :
 Calls Tryz.prog 51 #[av, bv] w (QRet w (sval al / sval bl) (sval al % sval bl)) := by
 obtain ⟨i0, hi, hz0, hz1, hz2⟩ := info_parts info_u32
 have hbl : bl.length ≤ 1000 := Nat.le_trans (len_le_of hnb ha.lim hge) hlen
 obtain ⟨aa, ca, rfl⟩ := ha.form
 obtain ⟨ab, cb, rfl⟩ := hb.form
 have hcmp := NatCmp_any _ _ al bl w ha hb hna hnb
 obtain ⟨r0, hr⟩ : ∃ r, r = cmpN (sval al) (sval bl) := ⟨_, rfl⟩
 have hr0 : ¬ r0 < 0 := by
  rw [hr]; unfold cmpN
  rw [if_neg (by omega)]
  split <;> omega
 rw [← hr] at hcmp
 have t0 : decide (r0 < 0) = false := by simp; omega
 clear hr
 obtain ⟨k, hk⟩ : ∃ k, bl.length = k + 1 := ⟨bl.length - 1, by omega⟩
 have hyt0 : 0 < bl.getD k 0 := by have := hnb k hk; omega
 have hytl := hb.lim.getD k
 obtain ⟨gb, rfl, hcb, hgb, hcells⟩ := hb.cells rfl (by omega)
 have hyk := hcells k (by omega)
 obtain ⟨yt, hyte⟩ : ∃ yt, yt = bl.getD k 0 := ⟨_, rfl⟩
 rw [← hyte] at hyt0 hytl hyk
 obtain ⟨t, ht⟩ : ∃ t, t = 1000000000 / (yt + 1) := ⟨_, rfl⟩
 have ht0 : 0 < t := by rw [ht]; exact Nat.div_pos (by omega) (by omega)
 have htl : t ≤ 500000000 := by
  rw [ht]
  exact Nat.le_trans (Nat.div_le_div_left (show 2 ≤ yt + 1 by omega) (by omega)) (by omega)
 have htI : Int.tdiv 1000000000 ((yt : Int) + 1) = (t : Int) := by
  rw [ht, show (yt : Int) + 1 = ((yt + 1 : Nat) : Int) by omega, Int.tdiv_eq_ediv_of_nonneg (by omega)]; rfl
 have hytN : ¬ ((yt : Int) + 1 = 0) := by omega
 obtain ⟨n, hn⟩ : ∃ n, n = al.length := ⟨_, rfl⟩
 obtain ⟨m, hm⟩ : ∃ m, m = bl.length := ⟨_, rfl⟩
 rw [← hm] at hk hbl hb1 hb hcmp ⊢
 rw [← hn] at hlen ha hcmp ⊢
 subst hk
 have hm1 : (((k + 1 : Nat) : Int)) - 1 = (k : Int) := by omega
 have tm : ((((k + 1 : Nat) : Int)) == 1) = false := by rw [beq_eq_false_iff_ne]; omega
 clear hcells hyte ht
 have H_hcmp := hid hcmp; have H_ha := hid ha; have H_hb := hid hb; have H_hna := hid hna; have H_hnb := hid hnb; have H_hge := hid hge; have H_hn := hid hn; have H_hm := hid hm; clear hcmp ha hb hna hnb hge hn hm
 go_enter Tryz.func51, Tryz.ntmps51
 go_wp2_with (fail)
 refine H_hcmp.out.mono ?_
 rintro e w2 ⟨rfl, nq, hnq⟩
 have hf : Fresh w w2 := by rw [hnq]; exact (Keep.refl _ _).drewN nq
 have k0 := cfr hyk hf
 clear hnq hyk
 have ha2 := H_ha.out.fresh hf
 have hb2 := H_hb.out.fresh hf
 obtain ⟨gt, hgt⟩ : ∃ gt, gt = w2.heap.size := ⟨_, rfl⟩
 have H_hf := hid hf; have H_ha2 := hid ha2; have H_hb2 := hid hb2; have H_hgt := hid hgt; clear hf ha2 hb2 hgt
 go_wp2_with (fail)
 generalize hw3 : w2.alloc _ = w3
 rw [← H_hgt.out]
 have bt : SNat w3 (.slice (some ⟨gt, 0, none⟩) 1 1) [t] := by rw [← hw3, H_hgt.out]; exact SNat.lit (by omega)
 have f3 : Fresh w2 w3 := by rw [← hw3]; exact (Keep.refl _ _).alloc _
 have et : sval [t] = t := by simp [sval]
 have htn : Norm [t] := norm_snoc (l := []) ht0
 clear k0
 have H_bt := hid bt; have H_f3 := hid f3; have H_hw3 := hid hw3; clear bt f3 hw3
 refine (NatMul_any _ _ al [t] _ (H_ha2.out.fresh H_f3.out) H_bt.out (by have := H_hn.out; simp; omega)).mono ?_
 rintro e w4 ⟨xv, xl, rfl, x1, x2, x3, x4⟩
 rw [et] at x3
 have hxl : xl.length ≤ n + 1 := x2.s_len_le (by
  rw [x3, spow_succ]
  have h1 := sval_lt H_ha.out.lim
  rw [← H_hn.out] at h1
  have h2 : sval al * t ≤ sval al * 1000000000 := Nat.mul_le_mul_left _ (by omega)
  omega)
 have bt4 := H_bt.out.fresh x4
 have hb4 := (H_hb2.out.fresh H_f3.out).fresh x4
 have f4 := ftr (ftr H_hf.out H_f3.out) x4
 obtain ⟨ax, cx, rfl⟩ := x1.form
 have H_x1 := hid x1; have H_x2 := hid x2; have H_x3 := hid x3; have H_x4 := hid x4; have H_bt4 := hid bt4; have H_hb4 := hid hb4; have H_f4 := hid f4; clear x1 x2 x3 x4 bt4 hb4 f4
 go_wp2_with (fail)
 refine (NatMul_any _ _ bl [t] _ H_hb4.out H_bt4.out (by have := H_hm.out; simp; omega)).mono ?_
 rintro e w5 ⟨yv, yl, rfl, y1, y2, y3, y4⟩
 rw [et] at y3
 have hyl : yl.length ≤ k + 1 + 1 := y2.s_len_le (by
  rw [y3, spow_succ]
  have h1 := sval_lt H_hb.out.lim
  rw [← H_hm.out] at h1
  have h2 : sval bl * t ≤ sval bl * 1000000000 := Nat.mul_le_mul_left _ (by omega)
  omega)
 have hB0 : 0 < sval bl := (sval_pos_iff H_hnb.out).1 (by have := H_hm.out; omega)
 have hy0 : 0 < sval yl := by rw [y3]; exact Nat.mul_pos hB0 ht0
 have hyl0 : 0 < yl.length := (sval_pos_iff y2).2 hy0
 have bt5 := H_bt4.out.fresh y4
 have x5 := H_x1.out.fresh y4
 have f5 := ftr H_f4.out y4
 obtain ⟨nx, hnx⟩ : ∃ nx, nx = xl.length := ⟨_, rfl⟩
 rw [← hnx] at x5 hxl ⊢
 obtain ⟨o, ho, mk⟩ := make_u32 nx w5 (by omega)
 obtain ⟨gq, hgq⟩ : ∃ gq, gq = w5.heap.size := ⟨_, rfl⟩
 rw [← hgq] at ho mk
 have fq : Fresh w5 (w5.alloc o) := (Keep.refl _ _).alloc o
 clear htn
 have H_y1 := hid y1; have H_y2 := hid y2; have H_y3 := hid y3; have H_y4 := hid y4; have H_hB0 := hid hB0; have H_hy0 := hid hy0; have H_bt5 := hid bt5; have H_x5 := hid x5; have H_f5 := hid f5; have H_hnx := hid hnx; have H_hgq := hid hgq; have H_fq := hid fq; clear y1 y2 y3 y4 hB0 hy0 bt5 x5 f5 hnx hgq fq
 go_wp2_with (fail)
 go_loopw [5, 11] (fun rv iv wr => ∃ (j : Nat) (rs Q : List Nat), j ≤ nx ∧ iv = .int .i64 ((j : Int) - 1) ∧ Hid (SNat wr rv rs) ∧ Hid (Norm rs) ∧ Hid (Q.length = nx - j) ∧ Hid (Lim Q) ∧ Hid (sval (xl.drop j) = sval yl * sval Q + sval rs) ∧ Hid (sval rs < sval yl) ∧ Hid (Blk .u32 wr gq (List.replicate j 0 ++ Q)) ∧ Hid (Fresh w5 wr)) (fun _ iv _ => (intOf iv + 1).toNat)
 case atStart =>
  exact ⟨nx, [], [], Nat.le_refl _, rfl, SNat.nil _, Norm.nil, hid (by simp), Lim.nil, hid (by rw [List.drop_of_length_le (by have := H_hnx.out; omega)]; simp [sval]), hid (by simpa [sval] using H_hy0.out), hid (by rw [List.append_nil]; exact ho.out), H_fq⟩
 case round =>
  obtain ⟨j, rs, Q, hj, rfl, hrs, hrn, hQl, hQlim, hval, hrlt, hblk, hfr⟩ := hrel
  obtain ⟨ar, cr, rfl⟩ := hrs.out.form
  rcases Nat.eq_zero_or_pos j with hj0 | hj0
  · subst hj0
    have e0 : List.replicate 0 0 ++ Q = Q := by simp
    have hbk := hblk.out
    rw [e0] at hbk
    have hql := hQl.out
    have hs := SNat.of_blk hbk hQlim.out (by omega)
    rw [show Q.length = nx by omega] at hs
    have hbt := H_bt5.out.fresh hfr.out
    obtain ⟨gt', he, _, _, hc⟩ := hbt.cells (n := 1) rfl (by omega)
    have hge' : gt' = gt := by injection he with h; injection h with h; exact h.symm
    subst hge'
    have hc0 := hc 0 (by omega)
    have e9 : [t].getD 0 0 = t := rfl
    rw [e9] at hc0
    have hrl : rs.length ≤ 1000000 := hrs.out.len
    clear hbk e0 hc he e9 hbt hql
    have H_hs := hid hs; clear hs
    go_wp2_with (fail)
    refine (natShort_any _ rs t _ hrs.out hrl ht0 (by omega)).mono ?_
    rintro e w6 ⟨q2, m2, rfl, m1, mn, mv, mf⟩
    obtain ⟨aq, cq, rfl⟩ := m1.form
    have hs6 := H_hs.out.fresh mf
    obtain ⟨rm, hrm⟩ : ∃ rm, rm = sval rs % t := ⟨_, rfl⟩
    rw [← hrm]
    clear hc0
    have H_m1 := hid m1; have H_mn := hid mn; have H_mv := hid mv; have H_mf := hid mf; have H_hs6 := hid hs6; have H_hrm := hid hrm; clear m1 mn mv mf hs6 hrm
    go_wp2_with (fail)
    refine (natTrim_any _ Q _ H_hs6.out).mono ?_
    rintro e w7 ⟨v7, l7, rfl, z1, z2, z3, z4⟩
    have m7 := H_m1.out.fresh z4
    have H_z1 := hid z1; have H_z2 := hid z2; have H_z3 := hid z3; have H_z4 := hid z4; have H_m7 := hid m7; clear z1 z2 z3 z4 m7
    go_wp2_with (fail)
    go_ret2
    have hv := hval.out
    rw [List.drop_zero, H_x3.out, H_y3.out] at hv
    have hlt := hrlt.out
    rw [H_y3.out] at hlt
    obtain ⟨d1, d2⟩ := scaled_div hv hlt ht0
    have d3 : sval al / sval bl = sval Q := by
     rw [d1, Nat.mul_add_div H_hB0.out, Nat.div_eq_of_lt d2, Nat.add_zero]
    have d4 : sval al % sval bl = sval rs / t := by
     rw [d1, Nat.mul_add_mod, Nat.mod_eq_of_lt d2]
    exact ⟨_, _, l7, m2, rfl, H_z1.out, H_z2.out, by rw [H_z3.out, d3], H_m7.out, H_mn.out, by rw [H_mv.out, d4], ftr H_f5.out (ftr (ftr hfr.out H_mf.out) H_z4.out)⟩
  · obtain ⟨i, rfl⟩ : ∃ i, j = i + 1 := ⟨j - 1, by omega⟩
    have hiI : ((i + 1 : Nat) : Int) - 1 = (i : Int) := by omega
    have x6 := H_x5.out.fresh hfr.out
    obtain ⟨gx, rfl, hcx, hgx, hcells⟩ := x6.cells H_hnx.out (by omega)
    have hxi := hcells i (by omega)
    have hxlim := x6.lim.getD i
    obtain ⟨x, hxx⟩ : ∃ x, x = xl.getD i 0 := ⟨_, rfl⟩
    rw [← hxx] at hxi hxlim
    have hstep := fun (d r' : Nat) (hd : d = (x + 1000000000 * sval rs) / sval yl) (hr' : r' = (x + 1000000000 * sval rs) - sval yl * d) => long_step hval.out hd hr' H_hy0.out
    have hdrop : sval (xl.drop i) = x + 1000000000 * sval (xl.drop (i + 1)) := by rw [drop_cons_getD (by have := H_hnx.out; omega), ← hxx]; rfl
    rw [← hdrop] at hstep
    obtain ⟨R, hR⟩ : ∃ R, R = x + 1000000000 * sval rs := ⟨_, rfl⟩
    rw [← hR] at hstep
    have hRlt : R < 1000000000 * sval yl := by have := hrlt.out; omega
    have hRs : sval (x :: rs) = R := by rw [hR]; rfl
    have hxrl : Lim (x :: rs) := fun z hz => by
     rcases List.mem_cons.1 hz with h | h
     · omega
     · exact hrs.out.lim z h
    have hrlen : rs.length ≤ 1100 := Nat.le_trans (hrn.out.s_len_le (Nat.lt_trans hrlt.out (sval_lt H_y1.out.lim))) (by omega)
    clear hcells x6
    have yr := H_y1.out.fresh hfr.out
    have hrsrc := fun W (hW : Fresh wr W) => hrs.out.fresh hW
    obtain ⟨gl, hgl⟩ : ∃ gl, gl = wr.heap.size := ⟨_, rfl⟩
    have H_hxx := hid hxx; have H_hstep := hid hstep; have H_hdrop := hid hdrop; have H_hR := hid hR; have H_hRlt := hid hRlt; have H_hRs := hid hRs; have H_hxrl := hid hxrl; have H_yr := hid yr; have H_hrsrc := hid hrsrc; have H_hgl := hid hgl; clear hxx hstep hdrop hR hRlt hRs hxrl yr hrsrc hgl
    rcases hrs.out.2.2 with ⟨hnil, hrs0⟩ | ⟨gr, capr, cur, T, hsl, hgr, q1, q2, q3, q4⟩
    · obtain ⟨rfl, rfl, rfl⟩ : ar = none ∧ rs = [] ∧ cr = 0 := by
       subst hrs0
       injection hnil with h1 h2 h3
       exact ⟨h1, rfl, h3⟩
      clear hnil hrs0
      go_wp2_with (fail)
      generalize hw6 : wr.alloc _ = w6
      rw [← H_hgl.out]
      have hv6 : SNat w6 (.slice (some ⟨gl, 0, none⟩) 1 1) [x] := by rw [← hw6, H_hgl.out]; exact SNat.lit hxlim
      have fl : Fresh wr w6 := by rw [← hw6]; exact (Keep.refl _ _).alloc _
      clear hxi
      have H_hv6 := hid hv6; have H_fl := hid fl; have H_hw6 := hid hw6; clear hv6 fl hw6
      refine (natTrim_any _ [x] _ H_hv6.out).mono ?_
      rintro e w7 ⟨v7, rl, rfl, t1, t2, t3, t4⟩
      rw [H_hRs.out] at t3
      have f7 := ftr H_fl.out t4
      have hrl7 : rl.length ≤ 1200 := Nat.le_trans (t2.s_len_le (k := yl.length + 1) (by
       rw [t3, spow_succ]
       have h1 := sval_lt H_y1.out.lim
       have h2 := H_hRlt.out
       omega)) (by omega)
      obtain ⟨a7, c7, rfl⟩ := t1.form
      have H_t1 := hid t1; have H_t2 := hid t2; have H_t3 := hid t3; have H_t4 := hid t4; have H_f7 := hid f7; clear t1 t2 t3 t4 f7
      go_wp2_with (fail)
      refine (natGuess_any _ yv rl yl _ H_t1.out (H_yr.out.fresh H_f7.out) H_y2.out H_t2.out hyl0 (by omega) (by rw [H_t3.out]; exact H_hRlt.out)).mono ?_
      rintro e w8 ⟨d, rfl, g1, g2, g3⟩
      rw [H_t3.out] at g1
      have f8 := ftr H_f7.out g3
      have r8 := H_t1.out.fresh g3
      have H_g1 := hid g1; have H_g3 := hid g3; have H_f8 := hid f8; have H_r8 := hid r8; clear g1 g3 f8 r8
      go_wp2_with (fail)
      refine (NatFrom_any d _ (by omega)).mono ?_
      rintro e w9 ⟨dv, dl, rfl, d1, d2, d3, d4⟩
      have hdl : dl.length ≤ 1 := d2.s_len_le (by rw [d3]; show d < 1000000000 ^ 1; omega)
      have f9 := ftr H_f8.out d4
      have r9 := H_r8.out.fresh d4
      have H_d1 := hid d1; have H_d2 := hid d2; have H_d3 := hid d3; have H_d4 := hid d4; have H_f9 := hid f9; have H_r9 := hid r9; clear d1 d2 d3 d4 f9 r9
      go_wp2_with (fail)
      refine (NatMul_any yv dv yl dl _ (H_yr.out.fresh H_f9.out) H_d1.out (by omega)).mono ?_
      rintro e w10 ⟨pv, pl, rfl, p1, p2, p3, p4⟩
      rw [H_d3.out] at p3
      have f10 := ftr H_f9.out p4
      have r10 := H_r9.out.fresh p4
      have H_p1 := hid p1; have H_p2 := hid p2; have H_p3 := hid p3; have H_p4 := hid p4; have H_f10 := hid f10; have H_r10 := hid r10; clear p1 p2 p3 p4 f10 r10
      go_wp2_with (fail)
      go_loopw [12, 13] (fun dv pv wi => ∃ (d' : Nat) (ps : List Nat), dv = .int .u64 d' ∧ d' ≤ 999999999 ∧ Hid (SNat wi pv ps) ∧ Hid (Norm ps) ∧ Hid (sval ps = sval yl * d') ∧ Hid (R / sval yl ≤ d') ∧ Hid (Fresh w10 wi)) (fun dv _ _ => (intOf dv).toNat)
      case atStart => exact ⟨d, pl, rfl, g2, H_p1, H_p2, H_p3, H_g1, Keep.refl _ _⟩
      case round =>
       obtain ⟨d', ps, rfl, hd', hps, hpn, hpv, hpd, hfi⟩ := hrel
       obtain ⟨ap, cp, rfl⟩ := hps.out.form
       have f11 := ftr H_f10.out hfi.out
       have r11 := H_r10.out.fresh hfi.out
       have hcm := NatCmp_any _ _ ps rl _ hps.out r11 hpn.out H_t2.out
       rw [H_t3.out] at hcm
       have hpl : ps.length ≤ 1200 := Nat.le_trans (hpn.out.s_len_le (k := yl.length + 1) (by
        rw [hpv.out, spow_succ]
        have h1 := sval_lt H_y1.out.lim
        have h2 : sval yl * d' ≤ sval yl * 1000000000 := Nat.mul_le_mul_left _ (by omega)
        omega)) (by omega)
       by_cases hgt2 : R < sval ps
       · have hc1 : cmpN (sval ps) R = 1 := cmpN_gt hgt2
         rw [hc1] at hcm
         have hd0 : 0 < d' := by
          rcases Nat.eq_zero_or_pos d' with h | h
          · have := hpv.out; rw [h, Nat.mul_zero] at this; omega
          · exact h
         have hdI : (d' : Int) - 1 = ((d' - 1 : Nat) : Int) := by omega
         have hd'' : d' - 1 ≤ 999999999 := by omega
         have hle : sval yl ≤ sval ps := by
          rw [hpv.out]
          exact Nat.le_mul_of_pos_right _ hd0
         have hsub := fun W (hW : Fresh _ W) => NatSub_any _ yv ps yl W (hps.out.fresh hW) ((H_yr.out.fresh f11).fresh hW) (len_le_of H_y2.out hps.out.lim hle) hle (by omega)
         have hnew : R / sval yl ≤ d' - 1 := by
          have h1 : R / sval yl < d' := by
           rw [Nat.div_lt_iff_lt_mul H_hy0.out, Nat.mul_comm]
           rw [← hpv.out]; exact hgt2
          omega
         have hval2 : sval ps - sval yl = sval yl * (d' - 1) := by
          rw [hpv.out, Nat.mul_sub, Nat.mul_one]
         have H_hd0 := hid hd0
         clear hc1 hgt2 hle hd0
         have H_hcm := hid hcm; have H_f11 := hid f11; have H_r11 := hid r11; have H_hsub := hid hsub; have H_hnew := hid hnew; have H_hval2 := hid hval2; clear hcm f11 r11 hsub hnew hval2
         go_wp2_with (fail)
         refine H_hcm.out.mono ?_
         rintro e w12 ⟨rfl, nq2, hnq2⟩
         have f12 : Fresh wr w12 := by rw [hnq2]; exact (Keep.refl _ _).drewN nq2
         clear hnq2
         have H_f12 := hid f12; clear f12
         go_wp2_with (fail)
         refine (H_hsub.out _ H_f12.out).mono ?_
         rintro e w13 ⟨pv2, pl2, rfl, s1, s2, s3, s4⟩
         rw [H_hval2.out] at s3
         have f13 := ftr (ftr hfi.out H_f12.out) s4
         have H_s1 := hid s1; have H_s2 := hid s2; have H_s3 := hid s3; have H_s4 := hid s4; have H_f13 := hid f13; clear s1 s2 s3 s4 f13
         go_wp2_with (fail)
         go_roundw
         case rel => exact ⟨d' - 1, pl2, rfl, hd'', H_s1, H_s2, H_s3, H_hnew, H_f13⟩
         case measure => have := H_hd0.out; simp [intOf]; omega
       · have hle2 : sval ps ≤ R := by omega
         have hcz : ¬ 0 < cmpN (sval ps) R := by
          unfold cmpN
          (repeat' split) <;> omega
         obtain ⟨cz, hcze⟩ : ∃ cz, cz = cmpN (sval ps) R := ⟨_, rfl⟩
         rw [← hcze] at hcm hcz
         have tz : decide (0 < cz) = false := by simp; omega
         have hde : d' = R / sval yl := digit_eq H_hy0.out hpv.out hpd.out hle2
         have hsub := fun W (hW : Fresh _ W) => NatSub_own _ _ rl ps W (r11.fresh hW) (hps.out.fresh hW) (len_le_of hpn.out r11.lim (by rw [H_t3.out]; exact hle2)) (by rw [H_t3.out]; exact hle2) (by omega)
         clear hgt2 hcze
         have H_hcm := hid hcm; have H_f11 := hid f11; have H_r11 := hid r11; have H_hsub := hid hsub; have H_hde := hid hde; have H_hle2 := hid hle2; clear hcm f11 r11 hsub hde hle2
         go_wp2_with (fail)
         refine H_hcm.out.mono ?_
         rintro e w12 ⟨rfl, nq2, hnq2⟩
         have f12 : Fresh wr w12 := by rw [hnq2]; exact (Keep.refl _ _).drewN nq2
         clear hnq2
         have H_f12 := hid f12; clear f12
         go_wp2_with (fail)
         refine (H_hsub.out _ H_f12.out).mono ?_
         rintro e w13 ⟨rv2, rl2, rfl, s1, s2, s3, s4, s5⟩
         rw [H_t3.out, hpv.out] at s3
         have f12' := ftr H_f10.out (ftr hfi.out H_f12.out)
         have f13 := ftr f12' s4
         have hq12 := (hblk.out.keep f12' (fun h => h)).lt
         have hoff : rv2.ownBlock ≠ some gq := fun e => by have := s5 _ e; omega
         have hbk := hblk.out.keep f13 (fun h => h)
         have hLq : (List.replicate (i + 1) 0 ++ Q).length = nx := by have := hQl.out; simp; omega
         have hcell := hbk.cell (o := i) (by rw [hLq]; omega)
         have hfroz := hbk.frozen i
         generalize (List.replicate (i + 1) 0 ++ Q).getD i 0 = z9 at hcell
         have hset := hbk.set i d'
         rw [rep_set_cons] at hset
         obtain ⟨st1, st2⟩ := H_hstep.out d' (R - sval yl * d') H_hde.out rfl
         obtain ⟨ar2, cr2, rfl⟩ := s1.form
         clear hq12 s5 f12'
         have H_s1 := hid s1; have H_s2 := hid s2; have H_s3 := hid s3; have H_s4 := hid s4; have H_f13 := hid f13; have H_hbk := hid hbk; have H_hset := hid hset; have H_st1 := hid st1; have H_st2 := hid st2; have H_hLq := hid hLq; have H_hoff := hid hoff; clear s1 s2 s3 s4 f13 hbk hset st1 st2 hLq hoff
         go_wp2_with (fail)
         go_roundw
         case rel =>
          refine ⟨i, rl2, d' :: Q, by omega, by simp, hid ?_, H_s2, hid (by have := hQl.out; simp; omega), hid ?_, hid (by rw [H_s3.out]; exact H_st1.out), hid (by rw [H_s3.out]; exact H_st2.out), H_hset, hid ?_⟩
          · exact H_s1.out.setOff (.inr H_hoff.out)
          · intro z hz
            rcases List.mem_cons.1 hz with h1 | h1
            · omega
            · exact hQlim.out z h1
          · exact (ftr hfr.out H_f13.out).setCell (fun h => by have := H_hgq.out; change gq < w5.heap.size at h; omega) _
         case measure => simp [intOf]
    · obtain ⟨rfl, rfl⟩ : ar = some ⟨gr, 0, none⟩ ∧ cr = capr := by
       injection hsl with h1 h2 h3
       exact ⟨h1, h3⟩
      have ho := lit_owns wr [x] 75 (by simp)
      have hsrc := (H_hrsrc.out _ ((Keep.refl _ wr).alloc (.cells #[.int .u32 (x : Int)] 75))).src
      obtain ⟨mr, hmr⟩ : ∃ mr, mr = rs.length := ⟨_, rfl⟩
      rw [← hmr] at hrlen q1 ⊢
      clear hsl hgr q2 q3 q4
      have H_hsrc := hid hsrc; have H_hmr := hid hmr; clear hsrc hmr
      go_wp2_with (at_builtin; refine wpList_append_own _ rfl _ _ 26 rfl wr.heap.size 75 i0 (.int .u32 0) 1 4 Tryz.underlying26 hi hz0 hz1 hz2 rfl (by decide) _ _ _ rfl ho ⟨gr, 0, none⟩ mr cr (rs.map (wd .u32)) rfl (by rw [List.length_map, ← H_hmr.out, Nat.mul_one]) H_hsrc.out ?c2 ?c3 ?c4 ?c5 ?_)
      case c2 => intro u hu; simp at hu; obtain ⟨_, _, rfl⟩ := hu; rfl
      case c3 => unfold maxLen; simp; omega
      case c4 => simp; omega
      case c5 => simp
      · intro v6 w6 hown' hgrow _
        have fl : Fresh wr w6 := Fresh.owns ((Keep.refl _ _).alloc _) ho (Nat.le_refl _) hgrow
        have hv6 : SNat w6 v6 (x :: rs) := SNat.of_owns (by simpa using hown') H_hxrl.out (by have := H_hmr.out; simp; omega)
        obtain ⟨a6, c6, rfl⟩ := hv6.form
        clear hown' hgrow ho hxi
        have H_hv6 := hid hv6; have H_fl := hid fl; clear hv6 fl
        go_wp2_with (fail)
        refine (natTrim_any _ (x :: rs) _ H_hv6.out).mono ?_
        rintro e w7 ⟨v7, rl, rfl, t1, t2, t3, t4⟩
        rw [H_hRs.out] at t3
        have f7 := ftr H_fl.out t4
        have hrl7 : rl.length ≤ 1200 := Nat.le_trans (t2.s_len_le (k := yl.length + 1) (by
         rw [t3, spow_succ]
         have h1 := sval_lt H_y1.out.lim
         have h2 := H_hRlt.out
         omega)) (by omega)
        obtain ⟨a7, c7, rfl⟩ := t1.form
        have H_t1 := hid t1; have H_t2 := hid t2; have H_t3 := hid t3; have H_t4 := hid t4; have H_f7 := hid f7; clear t1 t2 t3 t4 f7
        go_wp2_with (fail)
        refine (natGuess_any _ yv rl yl _ H_t1.out (H_yr.out.fresh H_f7.out) H_y2.out H_t2.out hyl0 (by omega) (by rw [H_t3.out]; exact H_hRlt.out)).mono ?_
        rintro e w8 ⟨d, rfl, g1, g2, g3⟩
        rw [H_t3.out] at g1
        have f8 := ftr H_f7.out g3
        have r8 := H_t1.out.fresh g3
        have H_g1 := hid g1; have H_g3 := hid g3; have H_f8 := hid f8; have H_r8 := hid r8; clear g1 g3 f8 r8
        go_wp2_with (fail)
        refine (NatFrom_any d _ (by omega)).mono ?_
        rintro e w9 ⟨dv, dl, rfl, d1, d2, d3, d4⟩
        have hdl : dl.length ≤ 1 := d2.s_len_le (by rw [d3]; show d < 1000000000 ^ 1; omega)
        have f9 := ftr H_f8.out d4
        have r9 := H_r8.out.fresh d4
        have H_d1 := hid d1; have H_d2 := hid d2; have H_d3 := hid d3; have H_d4 := hid d4; have H_f9 := hid f9; have H_r9 := hid r9; clear d1 d2 d3 d4 f9 r9
        go_wp2_with (fail)
        refine (NatMul_any yv dv yl dl _ (H_yr.out.fresh H_f9.out) H_d1.out (by omega)).mono ?_
        rintro e w10 ⟨pv, pl, rfl, p1, p2, p3, p4⟩
        rw [H_d3.out] at p3
        have f10 := ftr H_f9.out p4
        have r10 := H_r9.out.fresh p4
        have H_p1 := hid p1; have H_p2 := hid p2; have H_p3 := hid p3; have H_p4 := hid p4; have H_f10 := hid f10; have H_r10 := hid r10; clear p1 p2 p3 p4 f10 r10
        go_wp2_with (fail)
        go_loopw [12, 13] (fun dv pv wi => ∃ (d' : Nat) (ps : List Nat), dv = .int .u64 d' ∧ d' ≤ 999999999 ∧ Hid (SNat wi pv ps) ∧ Hid (Norm ps) ∧ Hid (sval ps = sval yl * d') ∧ Hid (R / sval yl ≤ d') ∧ Hid (Fresh w10 wi)) (fun dv _ _ => (intOf dv).toNat)
        case atStart => exact ⟨d, pl, rfl, g2, H_p1, H_p2, H_p3, H_g1, Keep.refl _ _⟩
        case round =>
         obtain ⟨d', ps, rfl, hd', hps, hpn, hpv, hpd, hfi⟩ := hrel
         obtain ⟨ap, cp, rfl⟩ := hps.out.form
         have f11 := ftr H_f10.out hfi.out
         have r11 := H_r10.out.fresh hfi.out
         have hcm := NatCmp_any _ _ ps rl _ hps.out r11 hpn.out H_t2.out
         rw [H_t3.out] at hcm
         have hpl : ps.length ≤ 1200 := Nat.le_trans (hpn.out.s_len_le (k := yl.length + 1) (by
          rw [hpv.out, spow_succ]
          have h1 := sval_lt H_y1.out.lim
          have h2 : sval yl * d' ≤ sval yl * 1000000000 := Nat.mul_le_mul_left _ (by omega)
          omega)) (by omega)
         by_cases hgt2 : R < sval ps
         · have hc1 : cmpN (sval ps) R = 1 := cmpN_gt hgt2
           rw [hc1] at hcm
           have hd0 : 0 < d' := by
            rcases Nat.eq_zero_or_pos d' with h | h
            · have := hpv.out; rw [h, Nat.mul_zero] at this; omega
            · exact h
           have hdI : (d' : Int) - 1 = ((d' - 1 : Nat) : Int) := by omega
           have hd'' : d' - 1 ≤ 999999999 := by omega
           have hle : sval yl ≤ sval ps := by
            rw [hpv.out]
            exact Nat.le_mul_of_pos_right _ hd0
           have hsub := fun W (hW : Fresh _ W) => NatSub_any _ yv ps yl W (hps.out.fresh hW) ((H_yr.out.fresh f11).fresh hW) (len_le_of H_y2.out hps.out.lim hle) hle (by omega)
           have hnew : R / sval yl ≤ d' - 1 := by
            have h1 : R / sval yl < d' := by
             rw [Nat.div_lt_iff_lt_mul H_hy0.out, Nat.mul_comm]
             rw [← hpv.out]; exact hgt2
            omega
           have hval2 : sval ps - sval yl = sval yl * (d' - 1) := by
            rw [hpv.out, Nat.mul_sub, Nat.mul_one]
           have H_hd0 := hid hd0
           clear hc1 hgt2 hle hd0
           have H_hcm := hid hcm; have H_f11 := hid f11; have H_r11 := hid r11; have H_hsub := hid hsub; have H_hnew := hid hnew; have H_hval2 := hid hval2; clear hcm f11 r11 hsub hnew hval2
           go_wp2_with (fail)
           refine H_hcm.out.mono ?_
           rintro e w12 ⟨rfl, nq2, hnq2⟩
           have f12 : Fresh wr w12 := by rw [hnq2]; exact (Keep.refl _ _).drewN nq2
           clear hnq2
           have H_f12 := hid f12; clear f12
           go_wp2_with (fail)
           refine (H_hsub.out _ H_f12.out).mono ?_
           rintro e w13 ⟨pv2, pl2, rfl, s1, s2, s3, s4⟩
           rw [H_hval2.out] at s3
           have f13 := ftr (ftr hfi.out H_f12.out) s4
           have H_s1 := hid s1; have H_s2 := hid s2; have H_s3 := hid s3; have H_s4 := hid s4; have H_f13 := hid f13; clear s1 s2 s3 s4 f13
           go_wp2_with (fail)
           go_roundw
           case rel => exact ⟨d' - 1, pl2, rfl, hd'', H_s1, H_s2, H_s3, H_hnew, H_f13⟩
           case measure => have := H_hd0.out; simp [intOf]; omega
         · have hle2 : sval ps ≤ R := by omega
           have hcz : ¬ 0 < cmpN (sval ps) R := by
            unfold cmpN
            (repeat' split) <;> omega
           obtain ⟨cz, hcze⟩ : ∃ cz, cz = cmpN (sval ps) R := ⟨_, rfl⟩
           rw [← hcze] at hcm hcz
           have tz : decide (0 < cz) = false := by simp; omega
           have hde : d' = R / sval yl := digit_eq H_hy0.out hpv.out hpd.out hle2
           have hsub := fun W (hW : Fresh _ W) => NatSub_own _ _ rl ps W (r11.fresh hW) (hps.out.fresh hW) (len_le_of hpn.out r11.lim (by rw [H_t3.out]; exact hle2)) (by rw [H_t3.out]; exact hle2) (by omega)
           clear hgt2 hcze
           have H_hcm := hid hcm; have H_f11 := hid f11; have H_r11 := hid r11; have H_hsub := hid hsub; have H_hde := hid hde; have H_hle2 := hid hle2; clear hcm f11 r11 hsub hde hle2
           go_wp2_with (fail)
           refine H_hcm.out.mono ?_
           rintro e w12 ⟨rfl, nq2, hnq2⟩
           have f12 : Fresh wr w12 := by rw [hnq2]; exact (Keep.refl _ _).drewN nq2
           clear hnq2
           have H_f12 := hid f12; clear f12
           go_wp2_with (fail)
           refine (H_hsub.out _ H_f12.out).mono ?_
           rintro e w13 ⟨rv2, rl2, rfl, s1, s2, s3, s4, s5⟩
           rw [H_t3.out, hpv.out] at s3
           have f12' := ftr H_f10.out (ftr hfi.out H_f12.out)
           have f13 := ftr f12' s4
           have hq12 := (hblk.out.keep f12' (fun h => h)).lt
           have hoff : rv2.ownBlock ≠ some gq := fun e => by have := s5 _ e; omega
           have hbk := hblk.out.keep f13 (fun h => h)
           have hLq : (List.replicate (i + 1) 0 ++ Q).length = nx := by have := hQl.out; simp; omega
           have hcell := hbk.cell (o := i) (by rw [hLq]; omega)
           have hfroz := hbk.frozen i
           generalize (List.replicate (i + 1) 0 ++ Q).getD i 0 = z9 at hcell
           have hset := hbk.set i d'
           rw [rep_set_cons] at hset
           obtain ⟨st1, st2⟩ := H_hstep.out d' (R - sval yl * d') H_hde.out rfl
           obtain ⟨ar2, cr2, rfl⟩ := s1.form
           clear hq12 s5 f12'
           have H_s1 := hid s1; have H_s2 := hid s2; have H_s3 := hid s3; have H_s4 := hid s4; have H_f13 := hid f13; have H_hbk := hid hbk; have H_hset := hid hset; have H_st1 := hid st1; have H_st2 := hid st2; have H_hLq := hid hLq; have H_hoff := hid hoff; clear s1 s2 s3 s4 f13 hbk hset st1 st2 hLq hoff
           go_wp2_with (fail)
           go_roundw
           case rel =>
            refine ⟨i, rl2, d' :: Q, by omega, by simp, hid ?_, H_s2, hid (by have := hQl.out; simp; omega), hid ?_, hid (by rw [H_s3.out]; exact H_st1.out), hid (by rw [H_s3.out]; exact H_st2.out), H_hset, hid ?_⟩
            · exact H_s1.out.setOff (.inr H_hoff.out)
            · intro z hz
              rcases List.mem_cons.1 hz with h1 | h1
              · omega
              · exact hQlim.out z h1
            · exact (ftr hfr.out H_f13.out).setCell (fun h => by have := H_hgq.out; change gq < w5.heap.size at h; omega) _
           case measure => simp [intOf]





















theorem NatDiv_any (av bv : Value) (al bl : List Nat) (w : World) (ha : SNat w av al) (hb : SNat w bv bl) (hna : Norm al) (hnb : Norm bl) (hlen : al.length ≤ 1000) (hb0 : 0 < sval bl) :
 Calls Tryz.prog 51 #[av, bv] w (QRet w (sval al / sval bl) (sval al % sval bl)) := by
 rcases Nat.lt_or_ge (sval al) (sval bl) with h | h
 · rw [Nat.div_eq_of_lt h, Nat.mod_eq_of_lt h]
   exact NatDiv_less av bv al bl w ha hb hna hnb hlen h
 · by_cases h1 : 1 < bl.length
   · exact NatDiv_long av bv al bl w ha hb hna hnb hlen h1 h
   · match bl, hb, hnb, hb0, h, h1 with
     | [], _, _, hb0, _, _ => simp [sval] at hb0
     | [b], hb, _, hb0, h, _ =>
       have e : sval [b] = b := by simp [sval]
       rw [e] at hb0 h ⊢
       exact NatDiv_one av bv al b w ha hb hna hb0 hlen h
     | _ :: _ :: _, _, _, _, _, h1 => simp at h1



def rhe (a b : Nat) : Nat := a / b + (if b < 2 * (a % b) ∨ (2 * (a % b) = b ∧ a / b % 2 = 1) then 1 else 0)

def okN (N d n : Nat) : Prop := rhe (N * 10 ^ n) d < 10000000000000000000

instance (N d n : Nat) : Decidable (okN N d n) := by unfold okN; infer_instance

def sgnN (z : Int) (n : Nat) : Int := if z < 0 then -(n : Int) else (n : Int)

theorem sgnN_abs (z : Int) (n : Nat) : (sgnN z n).natAbs = n := by unfold sgnN; split <;> simp

end Go.Proofs.YtllencgncinphaaGreatDoor
