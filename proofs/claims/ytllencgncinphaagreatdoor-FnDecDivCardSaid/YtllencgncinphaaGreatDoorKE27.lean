/- big: nat.divBasic: long division by words. -/
import Derived.Deep.Cut
import Derived.Test.YtllencgncinphaaGreatDoorKE24
import Derived.Test.YtllencgncinphaaGreatDoorKE25
import Derived.Test.YtllencgncinphaaGreatDoorKE26
namespace Go.Proofs.YtllencgncinphaaGreatDoor
open Go.RowKit Go.Lib
open Go.Lib (hid)
set_option maxRecDepth 20000
set_option maxHeartbeats 4000000

theorem divBasic_gen (gq oq cq gu ou cu gv ov cv n m bs : Nat) (sv : Int) (Lq Lu us vs : List Nat) (T : Nat → Prop) (E : World → Prop) (w : World) (hn : 2 ≤ n) (hm : m + n ≤ 100000) (hcu : m + n ≤ cu)
 (bq : Blk .u64 w gq Lq) (bu : Blk .u64 w gu Lu) (bv : VAt w gv ov vs) (hq : oq + m ≤ Lq.length) (hu : ou + (m + n) ≤ Lu.length)
 (hus : seg Lu ou (m + n) = us) (hvl : vs.length = n) (hub : ∀ a ∈ Lu, a < 18446744073709551616) (hvb : ∀ a ∈ vs, a < 18446744073709551616) (hqu : gq ≠ gu) (hqv : gq ≠ gv) (huv : gu ≠ gv)
 (htop : 9223372036854775808 ≤ vs.getD (n - 1) 0) (hlt : val (us.drop m) < val vs) (hTq : ¬ T gq) (hTu : ¬ T gu)
 (hsave : Calls Tryz.prog 183 #[.pointer (some ⟨bs, 0, none⟩)] w (fun e w' => e = .returned (.int .i64 sv) ∧ w = w'))
 (hnat : Calls Tryz.prog 185 #[.pointer (some ⟨bs, 0, none⟩), .int .i64 ((n + 1 : Nat) : Int)] w (fun e w1 => ∃ gh oh ch Lh, e = .returned (.slice (some ⟨gh, oh, none⟩) (n + 1) ch) ∧ n + 1 ≤ ch ∧ gh ≠ gq ∧ gh ≠ gu ∧ (gh ≠ gv ∨ ov + n ≤ oh) ∧ Hid (VAt w1 gv ov vs) ∧ Hid (StkGot T w w1 gh oh (n + 1) Lh) ∧
  Hid (∀ w2, Keep (fun k => k = gq ∨ k = gu ∨ k = gh) w1 w2 → CallsD Tryz.prog 182 #[.pointer (some ⟨bs, 0, none⟩), .int .i64 sv] .returning w2 (fun e u' w' => u' = .returning ∧ e = .returned (.tuple #[]) ∧ Keep T w2 w' ∧ E w')))) :
 Calls Tryz.prog 186 #[.slice (some ⟨gq, oq, none⟩) m cq, .pointer (some ⟨bs, 0, none⟩), .slice (some ⟨gu, ou, none⟩) (m + n) cu, .slice (some ⟨gv, ov, none⟩) n cv] w
  (fun e w' => DBRet w gq oq gu ou n m Lq Lu us vs T e w' ∧ E w') := by
 have husl : us.length = m + n := by rw [← hus]; exact sgL hu
 have husb : ∀ a ∈ us, a < 18446744073709551616 := by rw [← hus]; exact fun a ha => hub a (seg_mem ha)
 have hgq := bq.lt
 have hgu := bu.lt
 have hgv := bv.lt
 obtain ⟨N, hN⟩ : ∃ N, N = m + n := ⟨_, rfl⟩
 rw [← hN]
 have iN : (N : Int) - (n : Int) = (m : Int) := by omega
 have wN : IntKind.i64.wrap (m : Int) = (m : Int) := by rw [IntKind.wrap_i64]; omega
 obtain ⟨n1, hn1⟩ : ∃ n1, n1 = n + 1 := ⟨_, rfl⟩
 rw [← hn1] at hnat
 have in1 : (n : Int) + 1 = (n1 : Int) := by omega
 have wn1 : IntKind.i64.wrap (n1 : Int) = (n1 : Int) := by rw [IntKind.wrap_i64]; omega
 obtain ⟨b1, hb1⟩ : ∃ b, b = n - 1 := ⟨_, rfl⟩
 have ib1 : (n : Int) - 1 = (b1 : Int) := by omega
 have wb1 : IntKind.i64.wrap (b1 : Int) = (b1 : Int) := by rw [IntKind.wrap_i64]; omega
 have lb1 : (b1 : Int) < (n : Int) := by omega
 obtain ⟨b2, hb2⟩ : ∃ b, b = n - 2 := ⟨_, rfl⟩
 have ib2 : (n : Int) - 2 = (b2 : Int) := by omega
 have wb2 : IntKind.i64.wrap (b2 : Int) = (b2 : Int) := by rw [IntKind.wrap_i64]; omega
 have lb2 : (b2 : Int) < (n : Int) := by omega
 have hcv1 := bv.cell (i := b1) (by omega)
 obtain ⟨v1, hv1⟩ : ∃ v, v = vs.getD b1 0 := ⟨_, rfl⟩
 rw [← hv1] at hcv1
 have hv1b : v1 < 18446744073709551616 := by rw [hv1]; exact getD_lt hvb pos64 _
 have hv1t : 9223372036854775808 ≤ v1 := by rw [hv1, hb1]; exact htop
 obtain ⟨v2, hv2⟩ : ∃ v, v = vs.getD b2 0 := ⟨_, rfl⟩
 have hv2b : v2 < 18446744073709551616 := by rw [hv2]; exact getD_lt hvb pos64 _
 have hrec := fun W => reciprocalWord_any v1 W hv1b (by omega)
 have hst := KdInv.start husl husb hn hlt
 clear hv1b
 have H_bq := hid bq; have H_bu := hid bu; have H_bv := hid bv; have H_hq := hid hq; have H_hu := hid hu; have H_hus := hid hus; have H_hvl := hid hvl; have H_hub := hid hub; have H_hvb := hid hvb; have H_husl := hid husl; have H_husb := hid husb; have H_htop := hid htop; have H_hlt := hid hlt; have H_hTq := hid hTq; have H_hTu := hid hTu; have H_hsave := hid hsave; have H_hnat := hid hnat; have H_hN := hid hN; have H_hn1 := hid hn1; have H_hb1 := hid hb1; have H_hb2 := hid hb2; have H_hv1 := hid hv1; have H_hv2 := hid hv2; have H_hrec := hid hrec; have H_hst := hid hst; clear bq bu bv hq hu hus hvl hub hvb husl husb htop hlt hTq hTu hsave hnat hN hn1 hb1 hb2 hv1 hv2 hrec hst
 go_enter_defers Tryz.func186, Tryz.ntmps186
 go_wp2_with (fail)
 refine H_hsave.out.mono ?_
 rintro e w' ⟨rfl, rfl⟩
 go_wp2_with (fail)
 refine H_hnat.out.mono ?_
 rintro e w1 ⟨gh, oh, ch, Lh, rfl, hch, hhq, hhu, hhv, hbv1, hgot, hrest⟩
 have bq1 := H_bq.out.keep hgot.out.k H_hTq.out
 have bu1 := H_bu.out.keep hgot.out.k H_hTu.out
 have bv1 := hbv1.out
 have hcv1' := bv1.cell (i := b1) (by rw [H_hvl.out]; have := H_hb1.out; omega)
 rw [← H_hv1.out] at hcv1'
 clear hcv1
 have hgh1 := hgot.out.b.lt
 have H_bq1 := hid bq1; have H_bu1 := hid bu1; have H_bv1 := hid bv1; clear bq1 bu1 bv1
 go_wp2_with (fail)
 refine (H_hrec.out _).mono ?_
 rintro e w2 ⟨rec, rfl, hrm, f2⟩
 clear hcv1'
 have H_hrm := hid hrm; have H_f2 := hid f2; clear hrm f2
 go_wp2_with (fail)
 go_loopw [13, 14] (fun uj i wr => ∃ (z : Int) (k t : Nat) (ul R Qs Lh2 : List Nat), i = .int .i64 z ∧ z = (k : Int) - 1 ∧ k ≤ m + 1 ∧ uj = .int .u64 t ∧ Hid (KdInv n m k t us vs ul R Qs) ∧ Hid (Blk .u64 wr gu (spl Lu ou ul)) ∧ Hid (Blk .u64 wr gq (spl Lq (oq + k) Qs)) ∧
  Hid (Blk .u64 wr gh Lh2 ∧ Lh2.length = Lh.length) ∧ Hid (Keep (fun k => k = gq ∨ k = gu ∨ k = gh) w1 wr) ∧ Hid (VAt wr gv ov vs)) (fun _ i _ => (intOf i + 1).toNat)
 case atStart =>
  refine ⟨(m : Int), m + 1, 0, us, _, [], Lh, by simp, by omega, Nat.le_refl _, rfl, H_hst, hid ?_, hid ?_, hid ⟨hgot.out.b.keep H_f2.out (fun h => h), rfl⟩, hid (H_f2.out.mono (fun _ _ h => h.elim)), hid (H_bv1.out.keep H_f2.out (fun h => h))⟩
  · have : spl Lu ou us = Lu := by
     rw [← H_hus.out]
     apply ext_getD
     · rw [sgl (by rw [sgL H_hu.out]; exact H_hu.out)]
     · intro i _
       rw [sgD (by rw [sgL H_hu.out]; exact H_hu.out), sgL H_hu.out]
       split
       · rename_i h
         rw [seg_getD (by omega)]; congr 1; omega
       · rfl
    rw [this]
    exact H_bu1.out.keep H_f2.out (fun h => h)
  · rw [spl_nil]
    exact H_bq1.out.keep H_f2.out (fun h => h)
 case round =>
  obtain ⟨z, k, t, ul, R, Qs, Lh2, rfl, hzk, hk, rfl, hinv, hbu, hbq, hbh, hkp, hvr0⟩ := hrel
  rcases Nat.eq_zero_or_pos k with hk0 | hk0
  · subst hk0
    have t1 : decide (0 ≤ z) = false := by simp; omega
    have t1n : ¬ 0 ≤ z := by omega
    go_wp2_with (fail)
    refine leaves_cons (f := 182) (args := #[.pointer (some ⟨bs, 0, none⟩), .int .i64 sv]) (by simp) (by simp [go_sem]) ?_
    refine (hrest.out _ hkp.out).mono ?_
    rintro e u' w'' ⟨rfl, rfl, k9, hE⟩
    refine ⟨.tuple #[], ?_, ?_⟩
    · simp [results, Tryz.results186]
    · obtain ⟨d1, d2, d3⟩ := hinv.out.done
      have hbu := hbu.out
      rw [d1] at hbu
      refine ⟨⟨rfl, Qs, R, d3, hinv.out.rl, hinv.out.qb, hinv.out.rb, d2, hinv.out.rv, hbq.out.keep k9 H_hTq.out, hbu.keep k9 H_hTu.out, ?_⟩, hE⟩
      refine (hgot.out.k.trans hkp.out (U := fun k => k = gq ∨ k = gu ∨ T k) (fun _ _ h => .inr (.inr h)) (fun k hk h => ?_)).trans k9 (fun _ _ h => h) (fun _ _ h => .inr (.inr h))
      rcases h with h | h | h
      · exact .inl h
      · exact .inr (.inl h)
      · exact .inr (.inr (by subst h; exact hgot.out.o hk))
  · obtain ⟨j, rfl⟩ : ∃ j, k = j + 1 := ⟨k - 1, by omega⟩
    obtain rfl : z = (j : Int) := by omega
    clear hzk
    have t1 : decide (0 ≤ (j : Int)) = true := by simp
    have hg := kd_guess (x := us.getD j 0) hn H_hvl.out H_hvb.out hinv.out.rl hinv.out.rb (getD_lt H_husb.out pos64 j) H_htop.out hinv.out.rv
    rw [hinv.out.ht, ← H_hb1.out, ← H_hb2.out, ← H_hv1.out, ← H_hv2.out] at hg
    -- the two words that are read
    obtain ⟨jn, hjn⟩ : ∃ a, a = j + n := ⟨_, rfl⟩
    have ijn : (j : Int) + (n : Int) = (jn : Int) := by omega
    have wjn : IntKind.i64.wrap (jn : Int) = (jn : Int) := by rw [IntKind.wrap_i64]; omega
    obtain ⟨a1, ha1⟩ : ∃ a, a = j + b1 := ⟨_, rfl⟩
    have ia1 : (jn : Int) - 1 = (a1 : Int) := by have := H_hb1.out; omega
    have wa1 : IntKind.i64.wrap (a1 : Int) = (a1 : Int) := by rw [IntKind.wrap_i64]; have := H_hb1.out; omega
    have la1 : (a1 : Int) < (N : Int) := by have := H_hN.out; have := H_hb1.out; omega
    obtain ⟨a2, ha2⟩ : ∃ a, a = j + b2 := ⟨_, rfl⟩
    have ia2 : (jn : Int) - 2 = (a2 : Int) := by have := H_hb2.out; omega
    have wa2 : IntKind.i64.wrap (a2 : Int) = (a2 : Int) := by rw [IntKind.wrap_i64]; have := H_hb2.out; omega
    have la2 : (a2 : Int) < (N : Int) := by have := H_hN.out; have := H_hb2.out; omega
    obtain ⟨u1, hu1⟩ : ∃ u, u = (us.getD j 0 :: R).getD b1 0 := ⟨_, rfl⟩
    obtain ⟨u2, hu2⟩ : ∃ u, u = (us.getD j 0 :: R).getD b2 0 := ⟨_, rfl⟩
    rw [← hu1, ← hu2] at hg
    have hul := hinv.out.lu
    have hgu1 : ul.getD a1 0 = u1 := by rw [ha1, hinv.out.get, hu1]
    have hgu2 : ul.getD a2 0 = u2 := by rw [ha2, hinv.out.get, hu2]
    have hu1b : u1 < 18446744073709551616 := by rw [← hgu1]; exact getD_lt hinv.out.ub pos64 _
    have hu2b : u2 < 18446744073709551616 := by rw [← hgu2]; exact getD_lt hinv.out.ub pos64 _
    have hcu1 := hbu.out.cell (o := ou + a1) (by have := H_hu.out; have := H_hN.out; rw [sgl (by omega)]; omega)
    rw [sgD (by have := H_hu.out; omega), if_pos (by have := H_hN.out; omega), show ou + a1 - ou = a1 by omega, hgu1] at hcu1
    have hcu2 := hbu.out.cell (o := ou + a2) (by have := H_hu.out; have := H_hN.out; rw [sgl (by omega)]; omega)
    rw [sgD (by have := H_hu.out; omega), if_pos (by have := H_hN.out; omega), show ou + a2 - ou = a2 by omega, hgu2] at hcu2
    have hvr : VAt wr gv ov vs := hvr0.out
    have hcv2 := hvr.cell (i := b2) (by rw [H_hvl.out]; have := H_hb2.out; omega)
    rw [← H_hv2.out] at hcv2
    obtain ⟨hg1, hg2, hg3⟩ := hg
    have hv1b : v1 < 18446744073709551616 := by rw [H_hv1.out]; exact getD_lt H_hvb.out pos64 _
    obtain ⟨D, hD⟩ : ∃ D, D = val (us.getD j 0 :: R) / val vs := ⟨_, rfl⟩
    rw [← hD] at hg2 hg3
    have hjn' : jn = j + n := hjn
    have ha1' : a1 + 1 = jn := by have := H_hb1.out; omega
    have ha2' : a2 + 2 = jn := by have := H_hb2.out; omega
    have hb2' : b2 + 2 = n := by have := H_hb2.out; omega
    have hjN' : jn ≤ N := by have := H_hN.out; omega
    have hN' : N ≤ 100000 := by have := H_hN.out; omega
    have H_ha1 := hid ha1; have H_ha2 := hid ha2; have H_hu1 := hid hu1; have H_hu2 := hid hu2; have H_hul := hid hul; have H_hgu1 := hid hgu1; have H_hgu2 := hid hgu2; have H_hg2 := hid hg2; have H_hg3 := hid hg3; have H_hD := hid hD; have H_hjn := hid hjn; have H_hvr := hid hvr; clear ha1 ha2 hu1 hu2 hul hgu1 hgu2 hg2 hg3 hD hjn hvr
    have H_hjn' := hid hjn'
    have H_ha1' := hid ha1'
    have H_ha2' := hid ha2'
    have H_hb2' := hid hb2'
    clear hjn' ha1' ha2' hb2'
    go_upto_if 51 with (fail)
    refine kb_guess gu ou cu gv ov cv n N j jn a1 a2 b2 u1 u2 v1 v2 t rec D wr _ _ _ _ _ _ _ _ _ _ _ _ _ _ _ _ _ _ _ _ _ _ _ _ _ _ _ _ _ _ _ _ _ _ _ _ _ _ _ _ _ _ _ _ _ _ _ _ _ _ _ _ _ _ _ _ _ _ _ _ _ _ _ _ _ _ _ _ _ _ _ _ _ _ _ _ _ _ _ _ _ _ _ _ _ _ _ _ _ _ _ _ _ _ _ _ _ _ _ _ _ _ _ _ _ _ _ _ _ _ _ _ _ _ _ _ _ _ _ _ _ _ _ _ _ _ _ _ _ _ _ _ _ _ _ _ _ _ _ _ _ _ _ _ _ _ _ _ _ _ _ _ _ _ _ _ _ _ _ _ _ _ _ _ _ _ _ _ _ _ _ _ _ _ _ _ _ _ _ _ _ _ _ _ _ _ _ _ _ _ _ _ _ _ _ ?h H_hjn'.out H_ha1'.out H_ha2'.out H_hb2'.out hjN' hN' hu1b hu2b hv1b hv2b hg1 H_hg2 H_hg3 H_hrm hcu1 hcu2 hcv2
    intro qn wc hcut
    obtain ⟨hqb, hqD, hfx⟩ := hcut
    intros
    clear hcu1 hcu2 hcv2
    have hvc : VAt wc gv ov vs := H_hvr.out.keep hfx.out (fun h => h)
    obtain ⟨Lv, bvc, hvl1, hvl2, hvl3⟩ := hvc
    have hbhc := hbh.out.1.keep hfx.out (fun h => h)
    have hLh2 := hbh.out.2
    have hgl := hgot.out.l
    have hmul := mulAddVWW2 gh oh ch gv ov cv n qn 0 Lh2 Lv wc (by omega) hbhc bvc (by omega) (by rw [H_hvl.out] at hvl1; exact hvl1) hvl3 hqb (by omega) (hhv.elim (fun h => .inl h.symm) (fun h => .inr (.inr h)))
    rw [H_hvl.out] at hvl2
    rw [hvl2] at hmul
    have hP : kdP vs qn = (mulVs vs qn 0).1 ++ [(mulVs vs qn 0).2] := rfl
    have hPl := mulVs_length vs qn 0
    rw [H_hvl.out] at hPl
    have hs1v := mulVs_val vs qn 0
    rw [H_hvl.out] at hs1v
    have hs1b := mulVs_lt vs qn 0
    generalize hs1 : (mulVs vs qn 0).1 = s1 at *
    generalize hcc : (mulVs vs qn 0).2 = cc at *
    have lnh : (n : Int) ≤ (ch : Int) := by omega
    have lnn : (n : Int) < (n1 : Int) := by have := H_hn1.out; omega
    have hbuc := hbu.out.keep hfx.out (fun h => h)
    have hbqc := hbq.out.keep hfx.out (fun h => h)
    have hkc := hkp.out.trans hfx.out (U := fun k => k = gq ∨ k = gu ∨ k = gh) (fun _ _ h => h) (fun _ _ h => h.elim)
    have hbhc2 := hbhc
    clear hvl1 hvl2 hvl3 hbhc hg1
    have H_hmul := hid hmul; have H_hP := hid hP; have H_hPl := hid hPl; have H_hs1v := hid hs1v; have H_hs1b := hid hs1b; have H_hs1 := hid hs1; have H_hcc := hid hcc; have H_bvc := hid bvc; have H_hbuc := hid hbuc; have H_hbqc := hid hbqc; have H_hkc := hid hkc; have H_hLh2 := hid hLh2; have H_hgl := hid hgl; have H_hbhc2 := hid hbhc2; clear hmul hP hPl hs1v hs1b hs1 hcc bvc hbuc hbqc hkc hLh2 hgl hbhc2
    go_wp2_with (fail)
    refine H_hmul.out.mono ?_
    rintro e w5 ⟨rfl, hp5⟩
    have hc5 := hp5.blk.cell (o := oh + n) (by have := H_hLh2.out; have := H_hgl.out; have := H_hPl.out; have := H_hn1.out; rw [sgl (by omega)]; omega)
    have hf5 := hp5.blk.frozen (oh + n)
    have p6 := hp5.set (oh + n) cc
    rw [spl_set (by rw [H_hPl.out]) (by have := H_hLh2.out; have := H_hgl.out; have := H_hn1.out; omega), ← H_hP.out] at p6
    generalize (spl Lh2 oh s1).getD (oh + n) 0 = z9 at *
    have H_hp5 := hid hp5; have H_p6 := hid p6; clear hp5 p6
    go_upto_region 25 with (fail)
    have hbh6 := H_p6.out.blk
    generalize hw6 : w5.setCell ⟨gh, oh + n, none⟩ (.int .u64 (cc : Int)) = w6 at *
    have hk6 : Keep (fun k => k = gh) wc w6 := H_p6.out.keep
    have hbu6 := H_hbuc.out.keep hk6 (fun h => hhu h.symm)
    have hbq6 := H_hbqc.out.keep hk6 (fun h => hhq h.symm)
    have hkp6 := H_hkc.out.trans hk6 (U := fun k => k = gq ∨ k = gu ∨ k = gh) (fun _ _ h => h) (fun _ _ h => .inr (.inr h))
    have hvr6 : VAt w6 gv ov vs := (H_hvr.out.keep hfx.out (fun h => h)).puts H_hbhc2.out H_p6.out (by rw [kdP_length, H_hvl.out]; have := H_hLh2.out; have := H_hgl.out; have := H_hn1.out; omega) (kdP_lt H_hvb.out hqb) (by rw [H_hvl.out]; exact hhv)
    have hPlen : (kdP vs qn).length = n1 := by rw [kdP_length, H_hvl.out]; exact H_hn1.out.symm
    have hLh6 : oh + n1 ≤ Lh2.length := by have := H_hLh2.out; have := H_hgl.out; omega
    have hlh : (spl Lh2 oh (kdP vs qn)).length = Lh.length := by rw [sgl (by rw [hPlen]; exact hLh6)]; exact H_hLh2.out
    have hx := getD_lt H_husb.out pos64 j
    have hWb : ∀ a ∈ us.getD j 0 :: R, a < 18446744073709551616 := by
     intro a ha
     rcases List.mem_cons.1 ha with rfl | h
     · exact hx
     · exact hinv.out.rb a h
    have hWl : (us.getD j 0 :: R).length = n + 1 := by rw [List.length_cons, hinv.out.rl]
    have hv0 : 0 < val vs := by have := hinv.out.rv; omega
    clear hw6 hc5 hf5
    have H_hbu6 := hid hbu6; have H_hbq6 := hid hbq6; have H_hbh6 := hid hbh6; have H_hk6 := hid hk6; have H_hkp6 := hid hkp6; have H_hPlen := hid hPlen; have H_hLh6 := hid hLh6; have H_hvr6 := hid hvr6; have H_hWb := hid hWb; have H_hWl := hid hWl; have H_hv0 := hid hv0; have H_hlh := hid hlh; clear hbu6 hbq6 hbh6 hk6 hkp6 hPlen hLh6 hvr6 hWb hWl hv0 hlh
    rcases Nat.lt_or_ge j m with hj | hj

    · -- a window of n + 1 words
      obtain ⟨jn1, hjn1⟩ : ∃ a, a = j + n1 := ⟨_, rfl⟩
      have ijn1 : (j : Int) + (n1 : Int) = (jn1 : Int) := by omega
      have wjn1 : IntKind.i64.wrap (jn1 : Int) = (jn1 : Int) := by rw [IntKind.wrap_i64]; have := H_hn1.out; omega
      have njc : ¬ cu = j := by omega
      have ln1c : (n1 : Int) ≤ (ch : Int) := by have := H_hn1.out; omega
      have tg : decide ((N : Int) < (jn1 : Int)) = false := decide_eq_false (by have := H_hn1.out; have := H_hN.out; omega)
      have tgn : ¬ N < jn1 := by have := H_hn1.out; have := H_hN.out; omega
      have ljc : (jn1 : Int) ≤ (cu : Int) := by have := H_hn1.out; omega
      have ljj : (j : Int) ≤ (jn1 : Int) := by omega
      have ejn : jn1 - j = n1 := by omega
      have H_hjn1 := hid hjn1; clear hjn1
      have hwin := hinv.out.window hj
      have hfine := kd_fine (n := n) (q := qn) H_hWl.out H_hvl.out H_hWb.out H_hvb.out hqb H_hv0.out (by rw [← H_hD.out]; exact hqD.out.1)
      have hback := kd_back (n := n) (q := qn) H_hWl.out H_hvl.out H_hWb.out H_hvb.out hqb H_hv0.out (by rw [← H_hD.out]; exact hqD.out.2)
      rw [← H_hD.out] at hfine hback
      have hsub : ∀ W, Keep (fun _ => False) w6 W → Calls Tryz.prog 161 #[.slice (some ⟨gu, ou + j, none⟩) n1 (cu - j), .slice (some ⟨gu, ou + j, none⟩) n1 (cu - j), .slice (some ⟨gh, oh, none⟩) n1 ch] W
       (fun e w' => e = .returned (.int .u64 ((subVs (us.getD j 0 :: R) (kdP vs qn) 0).2 : Nat)) ∧ Hid (Puts .u64 gu (spl Lu ou (spl ul j (subVs (us.getD j 0 :: R) (kdP vs qn) 0).1)) W w')) := by
       intro W hW
       have h0 := H_hul.out
       have h1 := H_hN.out
       have h2 := H_hu.out
       have h3 := H_hn1.out
       have h4 := H_hPlen.out
       have h5 := H_hLh6.out
       have h6 := H_hWl.out
       have hsl : (subVs (us.getD j 0 :: R) (kdP vs qn) 0).1.length = n1 := by rw [subVs_length _ _ _ (by omega)]; omega
       have := subVV gu (ou + j) (cu - j) gu (ou + j) (cu - j) gh oh ch n1 _ _ _ W (by omega) (H_hbu6.out.keep hW (fun h => h)) (H_hbu6.out.keep hW (fun h => h)) (H_hbh6.out.keep hW (fun h => h))
        (by rw [sgl (by omega)]; omega) (by rw [sgl (by omega)]; omega) (by rw [sgl (by omega)]; omega) (.inr (Nat.le_refl _)) (.inl hhu)
       rw [seg_spl_in (by omega) (by omega), h3, hwin] at this
       rw [← h3] at this
       have e2 : seg (spl Lh2 oh (kdP vs qn)) oh n1 = kdP vs qn := by rw [← h4]; exact seg_spl (by omega)
       rw [e2, spl_in (by omega) (by omega)] at this
       exact this
      have hbw := subVs_carry (us.getD j 0 :: R) (kdP vs qn) 0 (by omega)
      have hDl : (subVs (us.getD j 0 :: R) (kdP vs qn) 0).1.length = n + 1 := by
       have h4 := H_hPlen.out
       have h3 := H_hn1.out
       have h6 := H_hWl.out
       rw [subVs_length _ _ _ (by omega)]; omega
      have hDb := subVs_lt (us.getD j 0 :: R) (kdP vs qn) 0
      generalize hSb : (subVs (us.getD j 0 :: R) (kdP vs qn) 0).1 = Dl at *
      generalize hSc : (subVs (us.getD j 0 :: R) (kdP vs qn) 0).2 = bw at *
      have H_hwin := hid hwin; have H_hfine := hid hfine; have H_hback := hid hback; have H_hsub := hid hsub; have H_hDl := hid hDl; have H_hDb := hid hDb; have H_hSb := hid hSb; have H_hSc := hid hSc; clear hwin hfine hback hsub hDl hDb hSb hSc
      go_wp2_with (fail)
      go_still_tail 15, (by kernel_rfl)
      change wpList _ _ _ _ _ (World.drew _)
      go_wp2_with (fail)
      refine (H_hsub.out _ (Keep.refl _ _).drew).mono ?_
      rintro e w7 ⟨rfl, hp7⟩
      have hp7 := hp7.out.of_drew
      have hvr7 := H_hvr6.out.keep hp7.keep (fun h => huv h.symm)
      have H_hp7 := hid hp7; have H_hvr7 := hid hvr7; clear hp7 hvr7
      go_upto_if 148 with (fail)
      refine kb_back gu ou cu gv ov cv n n1 N j qn bw D _ Lu ul Dl vs w7 _ _ _ _ _ _ _ _ _ _ _ _ _ _ _ _ _ _ _ _ _ _ _ _ _ _ _ _ _ _ _ _ _ _ _ _ _ _ _ _ _ _ _ _ _ _ _ _ _ _ _ _ _ _ _ _ _ _ _ _ _ _ _ _ _ _ _ _ _ _ _ _ _ _ _ _ _ _ _ _ _ _ _ _ _ _ _ _ _ _ _ _ _ _ _ _ _ _ _ _ _ _ _ _ _ _ _ _ _ _ _ _ _ _ _ _ _ _ _ _ _ _ _ _ _ _ _ _ _ _ _ _ _ _ _ _ _ _ _ _ _ _ _ _ _ _ _ _ _ _ _ _ _ _ _ _ _ _ _ _ _ _ _ _ _ _ _ _ _ _ _ _ _ _ _ _ _ _ _ _ _ _ _ _ _ _ _ _ _ _ _ _ _ _ _ _ ?h H_hn1.out (by omega) hN' (by have := H_hul.out; have := H_hN.out; omega) (by have := H_hu.out; have := H_hN.out; omega) (by have := H_hN.out; omega) (by have := H_hN.out; omega) huv H_hvl.out H_hDl.out H_hDb.out H_hub.out hinv.out.ub hbw hqb H_hfine.out H_hback.out H_hp7.out.blk H_hvr7.out
      intro R' wc2 hcut
      obtain ⟨hR', hbu8, hk8⟩ := hcut
      intros
      obtain ⟨hRl, hRb, hRv⟩ := hR'.out
      have hbq8 := (H_hbq6.out.keep H_hp7.out.keep (fun h => hqu h)).keep hk8.out (fun h => hqu h)
      have hbh8 := (H_hbh6.out.keep H_hp7.out.keep (fun h => hhu h)).keep hk8.out (fun h => hhu h)
      have hk9 := (H_hkp6.out.trans H_hp7.out.keep (U := fun k => k = gq ∨ k = gu ∨ k = gh) (fun _ _ h => h) (fun _ _ h => .inr (.inl h))).trans hk8.out (U := fun k => k = gq ∨ k = gu ∨ k = gh) (fun _ _ h => h) (fun _ _ h => .inr (.inl h))
      have hin : ou + (spl ul j (R' ++ [0])).length ≤ Lu.length := by have := H_hul.out; have := H_hu.out; rw [sgl (by simp; omega)]; omega
      have hca := hbu8.out.cell (o := ou + a1) (by have := H_ha1.out; have := H_hb1.out; have := H_hu.out; rw [sgl hin]; omega)
      rw [sgD hin, if_pos (by have := H_hul.out; have := H_ha1.out; have := H_hb1.out; rw [sgl (by simp; omega)]; omega), show ou + a1 - ou = a1 by omega, sgD (by have := H_hul.out; simp; omega), if_pos (by have := H_ha1.out; have := H_hb1.out; simp; omega),
       show a1 - j = b1 by have := H_ha1.out; omega, getD_snoc0] at hca
      have hnext := hinv.out.next hj H_husl.out H_husb.out hRl hRb hRv
      rw [← H_hD.out, ← H_hb1.out] at hnext
      generalize ht' : R'.getD b1 0 = t' at *
      have tjm : ((j : Int) == (m : Int)) = false := by rw [beq_eq_false_iff_ne]; omega
      have njm : ¬ j = m := by omega
      have ljm : (j : Int) < (m : Int) := by omega
      have hql := hinv.out.ql
      have hcq := hbq8.cell (o := oq + j) (by have := H_hq.out; rw [sgl (by omega)]; omega)
      have hfq := hbq8.frozen (oq + j)
      have hbq9 := hbq8.set (oq + j) D
      rw [show oq + (j + 1) = oq + j + 1 by omega, spl_cons _ (by have := H_hq.out; omega)] at hbq9
      generalize (spl Lq (oq + (j + 1)) Qs).getD (oq + j) 0 = z8 at *
      clear hql
      have H_hRl := hid hRl; have H_hRb := hid hRb; have H_hRv := hid hRv; have H_hin := hid hin; have H_hnext := hid hnext; have H_ht' := hid ht'; have H_hbq8 := hid hbq8; have H_hbq9 := hid hbq9; have H_hbh8 := hid hbh8; have H_hk9 := hid hk9; clear hRl hRb hRv hin hnext ht' hbq8 hbq9 hbh8 hk9
      go_wp2_with (fail)
      go_roundw
      case rel =>
       refine ⟨(j : Int) - 1, j, t', spl ul j (R' ++ [0]), R', D :: Qs, spl Lh2 oh (kdP vs qn), by simp, by omega, by omega, rfl, H_hnext, hid ?_, hid H_hbq9.out, hid ⟨?_, H_hlh.out⟩, hid ?_, hid ((H_hvr7.out.keep hk8.out (fun h => huv h.symm)).keep (Keep.setCell (S := fun k => k = gq) (Keep.refl _ _) (fun _ => rfl) _) (fun h => hqv h.symm))⟩
       · exact hbu8.out.keep (Keep.setCell (S := fun k => k = gq) (Keep.refl _ _) (fun _ => rfl) _) (fun h => hqu h.symm)
       · exact H_hbh8.out.keep (Keep.setCell (S := fun k => k = gq) (Keep.refl _ _) (fun _ => rfl) _) (fun h => hhq h)
       · exact H_hk9.out.setCell (fun _ => .inl rfl) _
      case measure => show ((j : Int) - 1 + 1).toNat < ((j : Int) + 1).toNat; omega
    · -- the first digit: a window of n words
      obtain rfl : m = j := by omega
      obtain ⟨jn1, hjn1⟩ : ∃ a, a = m + n1 := ⟨_, rfl⟩
      have ijn1 : (m : Int) + (n1 : Int) = (jn1 : Int) := by omega
      have wjn1 : IntKind.i64.wrap (jn1 : Int) = (jn1 : Int) := by rw [IntKind.wrap_i64]; have := H_hn1.out; omega
      have njc : ¬ cu = m := by omega
      have ln1c : (n1 : Int) ≤ (ch : Int) := by have := H_hn1.out; omega
      have tg : decide ((N : Int) < (jn1 : Int)) = true := decide_eq_true (by have := H_hn1.out; have := H_hN.out; omega)
      have tgp : N < jn1 := by have := H_hn1.out; have := H_hN.out; omega
      have ljc : (jn : Int) ≤ (cu : Int) := by have := H_hjn.out; omega
      have ljj : (m : Int) ≤ (jn : Int) := by have := H_hjn.out; omega
      have ejn : jn - m = n := by have := H_hjn.out; omega
      have in1b : (n1 : Int) - 1 = (n : Int) := by omega
      have wn0 : IntKind.i64.wrap (n : Int) = (n : Int) := by rw [IntKind.wrap_i64]; omega
      have H_hjn1 := hid hjn1; clear hjn1
      have hsm := hinv.out.small H_husl.out hn H_hlt.out
      have hD0 : D = 0 := by rw [H_hD.out]; exact Nat.div_eq_of_lt hsm
      have hq1 : qn ≤ 1 := by have := hqD.out.2; omega
      have hvw := val_lt H_hvb.out
      rw [H_hvl.out] at hvw
      have hqv : val vs * qn ≤ val vs * 1 := Nat.mul_le_mul_left _ hq1
      have hcc0 : cc = 0 := by
       rcases Nat.eq_zero_or_pos cc with h | h
       · exact h
       · exfalso
         have : wpow n * 1 ≤ wpow n * cc := Nat.mul_le_mul_left _ h
         have := H_hs1v.out
         omega
      have hs1q : val s1 = val vs * qn := by
       have := H_hs1v.out
       rw [hcc0, Nat.mul_zero] at this
       omega
      have hPn : (kdP vs qn).getD n 0 = 0 := by
       rw [H_hP.out, hcc0, getD_append, if_neg (by rw [H_hPl.out]; omega), H_hPl.out, Nat.sub_self]; rfl
      have hc6 := H_hbh6.out.cell (o := oh + n) (by have := H_hlh.out; have := H_hgl.out; have := H_hn1.out; omega)
      rw [sgD (by rw [H_hPlen.out]; exact H_hLh6.out), if_pos (by have := H_hPlen.out; have := H_hn1.out; omega), show oh + n - oh = n by omega, hPn] at hc6
      obtain ⟨htz1, htz2⟩ := top_zero H_hWl.out (by omega)
      have hTl : ((us.getD m 0 :: R).take n).length = n := by have := H_hWl.out; rw [List.length_take]; omega
      have hTb : ∀ a ∈ (us.getD m 0 :: R).take n, a < 18446744073709551616 := fun a ha => H_hWb.out a (List.mem_of_mem_take ha)
      have hfine := kd_fine0 (v := vs) (n := n) (q := qn) hTl H_hPl.out hTb H_hs1b.out (by rw [htz2]; exact hsm) hs1q
      have hback := kd_back0 (v := vs) (n := n) (q := qn) hTl H_hPl.out H_hvl.out hTb H_hs1b.out H_hvb.out (by rw [htz2]; exact hsm) hs1q hq1
      have hM : val ((us.getD m 0 :: R).take n) = val (us.getD m 0 :: R) % val vs := by rw [htz2, Nat.mod_eq_of_lt hsm]
      rw [hM] at hfine hback
      have hwin := hinv.out.windowM
      generalize hT : (us.getD m 0 :: R).take n = T0 at *
      have hsub : ∀ W, Keep (fun _ => False) w6 W → Calls Tryz.prog 161 #[.slice (some ⟨gu, ou + m, none⟩) n (cu - m), .slice (some ⟨gu, ou + m, none⟩) n (cu - m), .slice (some ⟨gh, oh, none⟩) n ch] W
       (fun e w' => e = .returned (.int .u64 ((subVs T0 s1 0).2 : Nat)) ∧ Hid (Puts .u64 gu (spl Lu ou (spl ul m (subVs T0 s1 0).1)) W w')) := by
       intro W hW
       have h0 := H_hul.out
       have h1 := H_hN.out
       have h2 := H_hu.out
       have h3 := H_hn1.out
       have h4 := H_hPlen.out
       have h5 := H_hLh6.out
       have h7 := H_hPl.out
       have hsl : (subVs T0 s1 0).1.length = n := by rw [subVs_length _ _ _ (by omega)]; omega
       have := subVV gu (ou + m) (cu - m) gu (ou + m) (cu - m) gh oh ch n _ _ _ W (by omega) (H_hbu6.out.keep hW (fun h => h)) (H_hbu6.out.keep hW (fun h => h)) (H_hbh6.out.keep hW (fun h => h))
        (by rw [sgl (by omega)]; omega) (by rw [sgl (by omega)]; omega) (by rw [sgl (by omega)]; omega) (.inr (Nat.le_refl _)) (.inl hhu)
       rw [seg_spl_in (by omega) (by omega), hwin] at this
       have e2 : seg (spl Lh2 oh (kdP vs qn)) oh n = s1 := by
        rw [← seg_take (show n ≤ n1 by omega), ← h4, seg_spl (by omega), H_hP.out, List.take_append_of_le_length (by omega), List.take_of_length_le (by omega)]
       rw [e2, spl_in (by omega) (by omega)] at this
       exact this
      have hbw := subVs_carry T0 s1 0 (by omega)
      have hDl : (subVs T0 s1 0).1.length = n := by have h7 := H_hPl.out; rw [subVs_length _ _ _ (by omega)]; omega
      have hDb := subVs_lt T0 s1 0
      generalize hSb : (subVs T0 s1 0).1 = Dl at *
      generalize hSc : (subVs T0 s1 0).2 = bw at *
      clear hsm hvw hqv hs1q hPn htz1 htz2 hq1
      have H_hwin := hid hwin; have H_hfine := hid hfine; have H_hback := hid hback; have H_hsub := hid hsub; have H_hDl := hid hDl; have H_hDb := hid hDb; have H_hSb := hid hSb; have H_hSc := hid hSc; have H_hcc0 := hid hcc0; have H_hTl := hid hTl; have H_hTb := hid hTb; have H_hM := hid hM; have H_hT := hid hT; have H_hD0 := hid hD0; clear hwin hfine hback hsub hDl hDb hSb hSc hcc0 hTl hTb hM hT hD0
      go_wp2_with (fail)
      go_still_tail 15, (by kernel_rfl)
      change wpList _ _ _ _ _ (World.drew _)
      go_wp2_with (fail)
      refine (H_hsub.out _ (Keep.refl _ _).drew).mono ?_
      rintro e w7 ⟨rfl, hp7⟩
      have hp7 := hp7.out.of_drew
      have hvr7 := H_hvr6.out.keep hp7.keep (fun h => huv h.symm)
      have H_hp7 := hid hp7; have H_hvr7 := hid hvr7; clear hp7 hvr7
      go_upto_if 148 with (fail)
      refine kb_back0 gu ou cu gv ov cv n N m qn bw D _ Lu ul Dl vs w7 _ _ _ _ _ _ _ _ _ _ _ _ _ _ _ _ _ _ _ _ _ _ _ _ _ _ _ _ _ _ _ _ _ _ _ _ _ _ _ _ _ _ _ _ _ _ _ _ _ _ _ _ _ _ _ _ _ _ _ _ _ _ _ _ _ _ _ _ _ _ _ _ _ _ _ _ _ _ _ _ _ _ _ _ _ _ _ _ _ _ _ _ _ _ _ _ _ _ _ _ _ _ _ _ _ _ _ _ _ _ _ _ _ _ _ _ _ _ _ _ _ _ _ _ _ _ _ _ _ _ _ _ _ _ _ _ _ _ _ _ _ _ _ _ _ _ _ _ _ _ _ _ _ _ _ _ _ _ _ _ _ _ _ _ _ _ _ _ _ _ _ _ _ _ _ _ _ _ _ _ _ _ _ _ _ _ _ _ _ _ _ _ _ _ _ _ ?h (by omega) hN' (by have := H_hul.out; have := H_hN.out; omega) (by have := H_hu.out; have := H_hN.out; omega) (by have := H_hN.out; omega) (by have := H_hN.out; omega) huv H_hvl.out H_hDl.out H_hDb.out H_hub.out hinv.out.ub hbw hqb (fun h => ⟨by have := (H_hfine.out h).1; have := H_hD0.out; omega, (H_hfine.out h).2⟩) (fun h => ⟨by have := (H_hback.out h).1; have := H_hD0.out; omega, (H_hback.out h).2⟩) H_hp7.out.blk H_hvr7.out
      intro R' wc2 hcut
      obtain ⟨hR', hbu8, hk8⟩ := hcut
      intros
      obtain ⟨hRl, hRb, hRv⟩ := hR'.out
      have hbq8 := (H_hbq6.out.keep H_hp7.out.keep (fun h => hqu h)).keep hk8.out (fun h => hqu h)
      have hbh8 := (H_hbh6.out.keep H_hp7.out.keep (fun h => hhu h)).keep hk8.out (fun h => hhu h)
      have hk9 := (H_hkp6.out.trans H_hp7.out.keep (U := fun k => k = gq ∨ k = gu ∨ k = gh) (fun _ _ h => h) (fun _ _ h => .inr (.inl h))).trans hk8.out (U := fun k => k = gq ∨ k = gu ∨ k = gh) (fun _ _ h => h) (fun _ _ h => .inr (.inl h))
      have hin : ou + (spl ul m R').length ≤ Lu.length := by have := H_hul.out; have := H_hu.out; rw [sgl (by omega)]; omega
      have hca := hbu8.out.cell (o := ou + a1) (by have := H_ha1.out; have := H_hb1.out; have := H_hu.out; rw [sgl hin]; omega)
      rw [sgD hin, if_pos (by have := H_hul.out; have := H_ha1.out; have := H_hb1.out; rw [sgl (by omega)]; omega), show ou + a1 - ou = a1 by omega, sgD (by have := H_hul.out; omega), if_pos (by have := H_ha1.out; have := H_hb1.out; omega),
       show a1 - m = b1 by have := H_ha1.out; omega] at hca
      have hnext := hinv.out.first H_husl.out hn H_hlt.out hRl hRb hRv
      rw [← H_hb1.out] at hnext
      generalize ht' : R'.getD b1 0 = t' at *
      have tmm : ((m : Int) == (m : Int)) = true := by simp
      have tD : ((D : Int) == 0) = true := by rw [H_hD0.out]; rfl
      have hQ : Qs = [] := List.eq_nil_of_length_eq_zero (by have := hinv.out.ql; omega)
      rw [hQ, spl_nil] at hbq8
      have H_hRl := hid hRl; have H_hRb := hid hRb; have H_hRv := hid hRv; have H_hin := hid hin; have H_hnext := hid hnext; have H_ht' := hid ht'; have H_hbq8 := hid hbq8; have H_hbh8 := hid hbh8; have H_hk9 := hid hk9; have H_hQ := hid hQ; clear hRl hRb hRv hin hnext ht' hbq8 hbh8 hk9 hQ
      go_wp2_with (fail)
      go_roundw
      case rel =>
       refine ⟨(m : Int) - 1, m, t', spl ul m R', R', Qs, spl Lh2 oh (kdP vs qn), by simp, by omega, by omega, rfl, H_hnext, hbu8, hid ?_, hid ⟨H_hbh8.out, H_hlh.out⟩, hid H_hk9.out, hid (H_hvr7.out.keep hk8.out (fun h => huv h.symm))⟩
       rw [H_hQ.out, spl_nil]; exact H_hbq8.out
      case measure => show ((m : Int) - 1 + 1).toNat < ((m : Int) + 1).toNat; omega

def StkV (h0 n : Nat) (w : World) (b gt : Nat) (Lt : List Nat) : Prop :=
 (Stk0 w b ∧ w.frozen? ⟨b, 0, none⟩ = false ∧ n ≤ 4) ∨ ∃ si, h0 ≤ si ∧ StkW w b si gt (nr4 n) Lt

def StkE (h0 : Nat) (w : World) (b : Nat) : Prop := Stk0 w b ∨ ∃ si g n G, h0 ≤ si ∧ StkH w b si g n G

theorem stk0_ne {w : World} {b g : Nat} {L : List Nat} (h : Stk0 w b) (bk : Blk .u64 w g L) (hL : 0 < L.length) : g ≠ b := by
 rintro rfl
 have h1 := bk.cell (o := 0) hL
 unfold Stk0 at h
 rw [h] at h1
 simp [wd] at h1

theorem StkE.keep {S : Nat → Prop} {h0 : Nat} {w w' : World} {b : Nat} (h : StkE h0 w b) (hk : Keep S w w') (h1 : ¬ S b) (h2 : ∀ k, S k → ∃ L, Blk .u64 w k L ∧ 0 < L.length) : StkE h0 w' b := by
 rcases h with h | ⟨si, g, n, G, h3, h4⟩
 · refine .inl ?_
   unfold Stk0 at h ⊢
   exact (hk.cell (p := ⟨b, 0, none⟩) (World.block_lt_of_cell? _ _ h) h1).trans h
 · refine .inr ⟨si, g, n, G, h3, h4.keep hk h1 (fun hs => ?_)⟩
   obtain ⟨L, hb, hl⟩ := h2 si hs
   exact (h4.ne hb hl).2 rfl

theorem stk0_keep {S : Nat → Prop} {w w' : World} {b : Nat} (h : Stk0 w b) (hk : Keep S w w') (h1 : ¬ S b) : Stk0 w' b := by
 unfold Stk0 at h ⊢
 exact (hk.cell (p := ⟨b, 0, none⟩) (World.block_lt_of_cell? _ _ h) h1).trans h

theorem StkV.put {h0 n : Nat} {w w' : World} {b gt gu : Nat} {Lt Lt' Lu : List Nat} (h : StkV h0 n w b gt Lt) (bt : Blk .u64 w gt Lt) (hlt : 0 < Lt.length) (bu : Blk .u64 w gu Lu) (hlu : 0 < Lu.length) (hk : Keep (fun k => k = gt ∨ k = gu) w w')
 (bt' : Blk .u64 w' gt Lt') (hl : Lt'.length = Lt.length) (hb : ∀ a ∈ Lt', a < 18446744073709551616) : StkV h0 n w' b gt Lt' := by
 rcases h with ⟨h1, h2, h3⟩ | ⟨si, h1, h2⟩
 · have n1 := stk0_ne h1 bt hlt
   have n2 := stk0_ne h1 bu hlu
   have hnb : ¬ (b = gt ∨ b = gu) := fun e => e.elim (fun e => n1 e.symm) (fun e => n2 e.symm)
   exact .inl ⟨stk0_keep h1 hk hnb, frozen_keep (World.block_lt_of_cell? _ _ h1) hk hnb h2, h3⟩
 · have n1 := h2.h.ne bt hlt
   have n2 := h2.h.ne bu hlu
   have hh := h2.h.keep hk (fun e => e.elim (fun e => n1.1 e.symm) (fun e => n2.1 e.symm)) (fun e => e.elim (fun e => n1.2 e.symm) (fun e => n2.2 e.symm))
   rw [← hl] at hh
   exact .inr ⟨si, h1, ⟨hh.p, ⟨hh.c, hh.f, bt', hb, by rw [hl]; exact h2.s.le, by rw [hl]; exact h2.s.mx, h2.s.ne⟩, h2.d1, h2.d2⟩⟩

theorem StkV.fresh {h0 n : Nat} {w w' : World} {b gt : Nat} {Lt : List Nat} (h : StkV h0 n w b gt Lt) (hk : Fresh w w') : StkV h0 n w' b gt Lt := by
 rcases h with ⟨h1, h2, h3⟩ | ⟨si, h1, h2⟩
 · exact .inl ⟨stk0_keep h1 hk (fun h => h), frozen_keep (World.block_lt_of_cell? _ _ h1) hk (fun h => h) h2, h3⟩
 · exact .inr ⟨si, h1, h2.keep hk (fun h => h) (fun h => h) (fun h => h)⟩

theorem stk_first (b n : Nat) (w : World) (h : Stk0 w b) (hf : w.frozen? ⟨b, 0, none⟩ = false) (h0 : 0 < n) (hn : n ≤ 90) :
 Calls Tryz.prog 185 #[.pointer (some ⟨b, 0, none⟩), .int .i64 n] w (fun e w2 => ∃ gt G Lt, e = .returned (.slice (some ⟨gt, 0, none⟩) n G) ∧ n ≤ G ∧ G ≤ 9223372036854775807 ∧
  Hid (Blk .u64 w2 gt Lt ∧ n ≤ Lt.length ∧ (∀ a ∈ Lt, a < 18446744073709551616) ∧ w.heap.size ≤ gt ∧ Keep (fun k => k = b) w w2 ∧ StkV w.heap.size n w2 b gt Lt)) := by
 rcases Nat.lt_or_ge 4 n with h4 | h4
 · refine (stkNat_new b n w h hf h4 (by omega)).mono ?_
   rintro e w2 ⟨L, rfl, hh⟩
   refine ⟨_, n, L, rfl, Nat.le_refl _, by omega, hid ⟨hh.out.1.s.bl, ?_, hh.out.1.s.bd, by omega, hh.out.2, .inr ⟨_, Nat.le_refl _, hh.out.1⟩⟩⟩
   have := hh.out.1.s.le
   have := nr4_le n
   omega
 · refine (stkNat_nil b n w h h0 h4).mono ?_
   rintro e w2 ⟨G, L, rfl, h1, h2, hh⟩
   obtain ⟨b1, b2, b3, b4⟩ := hh.out
   exact ⟨_, G, L, rfl, h1, h2, hid ⟨b1, by omega, b3, Nat.le_refl _, b4.mono (fun _ _ h => h.elim), .inl ⟨stk0_keep h b4 (fun h => h), frozen_keep (World.block_lt_of_cell? _ _ h) b4 (fun h => h) hf, h4⟩⟩⟩

theorem stk_second (h0 b gt gq gu n : Nat) (Lt Lq Lu vs : List Nat) (w : World) (hv : StkV h0 n w b gt Lt) (hh0 : h0 ≤ w.heap.size) (hbt : Blk .u64 w gt Lt) (hltp : 0 < Lt.length) (hgt0 : h0 ≤ gt) (hvs : VAt w gt 0 vs) (hvl : vs.length = n) (hn : 2 ≤ n) (hn9 : n ≤ 80)
 (bq : Blk .u64 w gq Lq) (hlq : 0 < Lq.length) (bu : Blk .u64 w gu Lu) (hlu : 0 < Lu.length) (hqt : gq ≠ gt) (hut : gu ≠ gt) :
 ∃ (T : Nat → Prop) (sv : Int), ¬ T gq ∧ ¬ T gu ∧ (∀ k, T k → k = b ∨ h0 ≤ k) ∧
  Calls Tryz.prog 183 #[.pointer (some ⟨b, 0, none⟩)] w (fun e w' => e = .returned (.int .i64 sv) ∧ w = w') ∧
  Calls Tryz.prog 185 #[.pointer (some ⟨b, 0, none⟩), .int .i64 ((n + 1 : Nat) : Int)] w (fun e w1 => ∃ gh oh ch Lh, e = .returned (.slice (some ⟨gh, oh, none⟩) (n + 1) ch) ∧ n + 1 ≤ ch ∧ gh ≠ gq ∧ gh ≠ gu ∧ (gh ≠ gt ∨ 0 + n ≤ oh) ∧ Hid (VAt w1 gt 0 vs) ∧ Hid (StkGot T w w1 gh oh (n + 1) Lh) ∧
   Hid (∀ w2, Keep (fun k => k = gq ∨ k = gu ∨ k = gh) w1 w2 → CallsD Tryz.prog 182 #[.pointer (some ⟨b, 0, none⟩), .int .i64 sv] .returning w2 (fun e u' w' => u' = .returning ∧ e = .returned (.tuple #[]) ∧ Keep T w2 w' ∧ StkE h0 w' b))) := by
 have hqlt := bq.lt
 have hulu := bu.lt
 have hgtl := hbt.lt
 rcases hv with ⟨h1, h2, h4⟩ | ⟨si, hsi, hw⟩
 · have nq := stk0_ne h1 bq hlq
   have nu := stk0_ne h1 bu hlu
   have nt := stk0_ne h1 hbt hltp
   rcases Nat.lt_or_ge n 4 with h3 | h3
   · refine ⟨fun _ => False, 0, fun h => h, fun h => h, fun _ h => h.elim, save_nil b w h1, (stkNat_nil b (n + 1) w h1 (by omega) (by omega)).mono ?_⟩
     rintro e w1 ⟨G, L, rfl, c1, c2, hh⟩
     obtain ⟨b1, b2, b3, b4⟩ := hh.out
     refine ⟨_, 0, G, L, rfl, c1, by omega, by omega, .inl (by omega), hid (hvs.keep b4 (fun h => h)), hid ⟨b1, by omega, b4, fun h => absurd h (by omega)⟩, hid fun w2 hk => ?_⟩
     have s1 := stk0_keep h1 b4 (fun h => h)
     have nh := stk0_ne s1 b1 (by omega)
     have s2 := stk0_keep s1 hk (fun h => by
      rcases h with h | h | h
      · exact nq h.symm
      · exact nu h.symm
      · exact nh h.symm)
     exact (restore_nil b w2 s2).mono (by rintro e u' w9 ⟨rfl, rfl, rfl⟩; exact ⟨rfl, rfl, Keep.refl _ _, .inl s2⟩)
   · obtain rfl : n = 4 := by omega
     refine ⟨fun k => k = b ∨ k = w.heap.size, 0, fun h => h.elim nq (fun e => by omega), fun h => h.elim nu (fun e => by omega), fun k h => h.elim .inl (fun e => .inr (by omega)), save_nil b w h1, (stkNat_new b 5 w h1 h2 (by omega) (by omega)).mono ?_⟩
     rintro e w1 ⟨L, rfl, hh⟩
     have hS := hh.out.1
     have hb5 := hS.s.le
     have hn5 := nr4_le 5
     refine ⟨_, 0, 5, L, rfl, Nat.le_refl _, by omega, by omega, .inl (by omega), hid (hvs.keep hh.out.2 (fun h => nt h)), hid ⟨hS.s.bl, by omega, hh.out.2.mono (fun _ _ h => .inl h), fun h => absurd h (by omega)⟩, hid fun w2 hk => ?_⟩
     have hH := hS.h.keep hk (fun h => by
      rcases h with h | h | h
      · exact nq h.symm
      · exact nu h.symm
      · exact hS.d2 h) (fun h => by
      rcases h with h | h | h
      · omega
      · omega
      · exact hS.s.ne h)
     refine (restore_some b _ _ _ _ 0 w2 hH (Nat.zero_le _)).mono ?_
     rintro e u' w9 ⟨rfl, rfl, h9⟩
     exact ⟨rfl, rfl, h9.out.2.mono (fun _ _ h => .inr h), .inr ⟨_, _, _, _, hh0, h9.out.1⟩⟩
 · have nq := hw.h.ne bq hlq
   have nu := hw.h.ne bu hlu
   refine ⟨fun k => k = si ∨ k = gt, ((nr4 n : Nat) : Int), fun h => h.elim nq.2 hqt, fun h => h.elim nu.2 hut, fun k h => .inr (h.elim (fun e => e ▸ hsi) (fun e => e ▸ hgt0)), save_some b si gt (nr4 n) Lt w hw, (stkNat_more b si gt (nr4 n) (n + 1) Lt w hw (by omega) (by omega) (by have := nr4_le n; omega)).mono ?_⟩
   rintro e w1 ⟨gh, L', rfl, hh⟩
   obtain ⟨hS, hV, hg, hK⟩ := hh.out
   have hr1 := nr4_le n
   have hr2 := nr4_le (n + 1)
   have hle := hS.s.le
   have hq1 : gh ≠ gq := by rcases hg with h | h <;> first | (rw [h]; exact hqt.symm) | omega
   have hu1 : gh ≠ gu := by rcases hg with h | h <;> first | (rw [h]; exact hut.symm) | omega
   refine ⟨gh, nr4 n, n + 1, L', rfl, Nat.le_refl _, hq1, hu1, .inr (by omega), hid (hV vs hvs (by omega)), hid ⟨hS.s.bl, by omega, hK, fun h => ?_⟩, hid fun w2 hk => ?_⟩
   · rcases hg with e | e
     · exact .inr e
     · omega
   · have hH := hS.h.keep hk (fun h => by
      rcases h with h | h | h
      · exact nq.1 h.symm
      · exact nu.1 h.symm
      · exact hS.d2 h) (fun h => by
      rcases h with h | h | h
      · exact nq.2 h.symm
      · exact nu.2 h.symm
      · exact hS.s.ne h)
     refine (restore_some b _ _ _ _ (nr4 n) w2 hH (by omega)).mono ?_
     rintro e u' w9 ⟨rfl, rfl, h9⟩
     exact ⟨rfl, rfl, h9.out.2.mono (fun _ _ h => .inl h), .inr ⟨_, _, _, _, hsi, h9.out.1⟩⟩

def StkS (h0 : Nat) (w : World) (S : Nat → Prop) : Prop := ∀ k, S k → h0 ≤ k ∧ ∀ L, Blk .u64 w k L → ¬ 0 < L.length

theorem stk_restore (h0 b : Nat) (w : World) (h : StkE h0 w b) : CallsD Tryz.prog 182 #[.pointer (some ⟨b, 0, none⟩), .int .i64 0] .returning w (fun e u' w' => u' = .returning ∧ e = .returned (.tuple #[]) ∧ Hid (∃ S, StkS h0 w S ∧ Keep S w w' ∧ StkE h0 w' b)) := by
 rcases h with h | ⟨si, g, n, G, h1, h2⟩
 · exact (restore_nil b w h).mono (by rintro e u' w9 ⟨rfl, rfl, rfl⟩; exact ⟨rfl, rfl, hid ⟨fun _ => False, fun _ h => h.elim, Keep.refl _ _, .inl h⟩⟩)
 · refine (restore_some b _ _ _ _ 0 w h2 (Nat.zero_le _)).mono ?_
   rintro e u' w9 ⟨rfl, rfl, h9⟩
   exact ⟨rfl, rfl, hid ⟨fun k => k = si, fun k hk => ⟨hk ▸ h1, fun L bk hl => (h2.ne bk hl).2 hk⟩, h9.out.2, .inr ⟨_, _, _, _, h1, h9.out.1⟩⟩⟩

end Go.Proofs.YtllencgncinphaaGreatDoor
