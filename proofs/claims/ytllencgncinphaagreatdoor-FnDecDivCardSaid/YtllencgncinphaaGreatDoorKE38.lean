/- shopspring: rescale to a greater exponent: the coefficient is cut off. Printed by gen_rsb.py. -/
import Derived.Test.YtllencgncinphaaGreatDoorKE6
import Derived.Test.YtllencgncinphaaGreatDoorKE23
import Derived.Test.YtllencgncinphaaGreatDoorKE31
import Derived.Test.YtllencgncinphaaGreatDoorKE37
namespace Go.Proofs.YtllencgncinphaaGreatDoor
open Go.RowKit
open Go.Lib (hid)
set_option maxRecDepth 20000
set_option maxHeartbeats 1000000



theorem sqr_one (zv xv : Value) (stk : Option Addr) (zl xl : List Nat) (w : World) (hn : xl.length = 1) (h : NatAt w zv zl) (hx : NatAt w xv xl) (hs : Apart zv xv) :
 Calls Tryz.prog 170 #[zv, .pointer stk, xv] w (NatRet w zv (val xl * val xl)) := by
 obtain ⟨gx, ox, cx, M, rfl, bx, hx1, hx2, hx3, hx4⟩ := hx.open_pos (by omega)
 rw [hn] at hx1 hx3
 have hc := bx.cell (o := ox) (by omega)
 have hd := getD_lt hx4 pos64 ox
 have hxv : val xl = M.getD ox 0 := by rw [hx3, seg_head (by omega), seg_zero]; simp [val]
 rw [hn, hxv]
 generalize M.getD ox 0 = d at *
 have hm := make_any zv zl 2 w (by omega) (by omega) h
 have hmw := fun W => mulWW_any d d hd hd W
 have hlo : mulL d d < 18446744073709551616 := by unfold mulL; exact Nat.mod_lt _ (by omega)
 have hhi : mulH d d < 18446744073709551616 := by unfold mulH; exact Nat.div_lt_of_lt_mul (Nat.mul_lt_mul'' hd hd)
 have hv2 : val [mulL d d, mulH d d] = d * d := by simp [val, mulL, mulH]; omega
 generalize mulL d d = lo at *
 generalize mulH d d = hi at *
 have H_h := hid h; have H_hx := hid hx; have H_hs := hid hs; have H_bx := hid bx; have H_hx2 := hid hx2; have H_hx3 := hid hx3; have H_hx4 := hid hx4; have H_hxv := hid hxv; have H_hm := hid hm; have H_hmw := hid hmw; have H_hlo := hid hlo; have H_hhi := hid hhi; have H_hv2 := hid hv2; have H_hd := hid hd; clear h hx hs bx hx2 hx3 hx4 hxv hm hmw hlo hhi hv2 hd
 clear hx1 hn
 go_enter Tryz.func170, Tryz.ntmps170
 go_wp2_with (fail)
 refine H_hm.out.mono ?_
 intro e w1 hm
 obtain ⟨g, off, cap, L, rfl, hb, h1, h2, h3, h4, h5, hcap⟩ := hm.split
 clear hm
 have l2 := h2.out
 have c0 := hb.out.frozen off
 have c1 := hb.out.frozen (off + 1)
 have d0 := hb.out.cell (o := off) (by omega)
 have d1 := hb.out.cell (o := off + 1) (by omega)
 have i1 : (1 : Int) < 2 := by omega
 have hna : NatAt ((w1.setCell ⟨g, off + 1, none⟩ (wd .u64 hi)).setCell ⟨g, off, none⟩ (wd .u64 lo)) (.slice (some ⟨g, off, none⟩) 2 cap) [lo, hi] := by
  have p := ((Puts.refl hb.out).set (off + 1) hi).set off lo
  have hn : ∀ y ∈ (L.set (off + 1) hi).set off lo, y < 18446744073709551616 := fun y hy => by
   rcases List.mem_or_eq_of_mem_set hy with h | h
   · rcases List.mem_or_eq_of_mem_set h with h | h
     · exact h3.out y h
     · rw [h]; exact H_hhi.out
   · rw [h]; exact H_hlo.out
  have hna := NatAt.mk (n := 2) hcap p.blk h1 (by simp only [List.length_set]; exact h2.out) hn
  have e1 : seg ((L.set (off + 1) hi).set off lo) off 2 = [lo, hi] := by
   have g0 : ((L.set (off + 1) hi).set off lo).getD off 0 = lo := by rw [getD_set _ _ _ _ (by simp only [List.length_set]; omega), if_pos rfl]
   have g1 : ((L.set (off + 1) hi).set off lo).getD (off + 1) 0 = hi := by rw [getD_set _ _ _ _ (by simp only [List.length_set]; omega), if_neg (by omega), getD_set _ _ _ _ (by omega), if_pos rfl]
   rw [seg_head (by simp only [List.length_set]; omega), seg_head (by simp only [List.length_set]; omega), seg_zero, g0, g1]
  rw [e1] at hna
  exact hna
 have hkp : Keep (· = g) w1 ((w1.setCell ⟨g, off + 1, none⟩ (wd .u64 hi)).setCell ⟨g, off, none⟩ (wd .u64 lo)) := (((Puts.refl hb.out).set (off + 1) hi).set off lo).keep
 have hno := norm_any _ _ _ (by simp) hna
 have H_hna := hid hna; have H_hkp := hid hkp; have H_hno := hid hno; have H_hb := hid hb; clear hna hkp hno hb
 go_wp2_with (fail)
 refine (H_hmw.out _).mono ?_
 rintro e w2 ⟨rfl, rfl⟩
 go_wp2_with (fail)
 refine H_hno.out.mono ?_
 rintro e w7 ⟨rv, l, rfl, h6, hnorm, hval, hown, rfl⟩
 have H_h6 := hid h6; have H_hnorm := hid hnorm; have H_hval := hid hval; have H_hown := hid hown; clear h6 hnorm hval hown
 go_wp2_with (fail)
 go_ret
 exact ⟨rv, l, rfl, NatOp.of h5.out h4.out H_hkp.out H_h6.out (fun k hk => by have := H_hown.out k hk; simpa [Value.ownBlock] using this.symm), H_hnorm.out, by rw [H_hval.out, H_hv2.out]⟩

theorem sqr_big (zv xv : Value) (stk : Option Addr) (zl xl : List Nat) (w : World) (hG : Glob w) (hn : 1 < xl.length) (hn12 : xl.length < 12)
 (h : NatAt w zv zl) (hx : NatAt w xv xl) (hs : Apart zv xv) :
 Calls Tryz.prog 170 #[zv, .pointer stk, xv] w (NatRet w zv (val xl * val xl)) := by
 have hal := alias_apart zv xv zl xl w h hx hs
 obtain ⟨gx, ox, cx, M, rfl, bx, hx1, hx2, hx3, hx4⟩ := hx.open_pos (by omega)
 have hgx := bx.lt
 have hn0 : ((xl.length : Int) == 0) = false := by rw [beq_eq_false_iff_ne]; omega
 have hn1 : ((xl.length : Int) == 1) = false := by rw [beq_eq_false_iff_ne]; omega
 have t1 : decide ((xl.length : Int) < 12) = true := by simp; omega
 have t2 : decide ((xl.length : Int) < 80) = true := by simp; omega
 have t3 : (xl.length : Int) < 12 := by omega
 have t4 : (xl.length : Int) < 80 := by omega
 have hmk : ∀ n, Calls Tryz.prog 158 #[zv, .int .i64 (2 * (xl.length : Int))] (w.drewN n) (Made (w.drewN n) zv (xl.length + xl.length)) := by
  intro n
  have := make_any zv zl (xl.length + xl.length) (w.drewN n) (by omega) (by omega) (h.drewN n)
  rwa [Int.natCast_add, ← Int.two_mul] at this
 have hat : ∀ g off n, At (w.drewN n) zv g off → gx ≠ g := by
  intro g off n hat
  rcases hat with ⟨n0, c0, hv⟩ | hg
  · exact fun e => hs g (by rw [hv]; rfl) (by rw [← e]; rfl)
  · have : (w.drewN n).heap.size = w.heap.size := rfl
    omega
 generalize hml : xl.length = m at *
 have H_hG := hid hG; have H_h := hid h; have H_hx := hid hx; have H_hs := hid hs; have H_bx := hid bx; have H_hx2 := hid hx2; have H_hx3 := hid hx3; have H_hx4 := hid hx4; have H_hmk := hid hmk; have H_hml := hid hml; have H_hal := hid hal; have H_hat := hid hat; have H_hgx := hid hgx; clear hG h hx hs bx hx2 hx3 hx4 hmk hml hal hat hgx
 go_enter Tryz.func170, Tryz.ntmps170
 go_wp2_with (fail)
 refine H_hal.out.mono ?_
 rintro e w1 ⟨rfl, n1, rfl⟩
 go_wp2_with (fail)
 refine (H_hmk.out _).mono ?_
 intro e w1 hm
 obtain ⟨g, off, cap, L, rfl, hbk, h1, h2, h3, h4, h5, hcap⟩ := hm.split
 clear hm
 have hd := H_hat.out g off _ h5.out
 have hG1 := (H_hG.out.drewN _).fresh h4.out
 have bsq1 := hG1.bsq
 have ksq1 := hG1.ksq
 have hmul := basicMul_any g off cap (m + m) gx ox cx m gx ox cx m L M M w1 (by omega) (by omega) (by omega) (by omega) hbk.out ((H_bx.out.drewN _).keep h4.out (fun h => h)) ((H_bx.out.drewN _).keep h4.out (fun h => h))
  h2.out h1 (by omega) (by have := H_hx2.out; omega) (by have := H_hx2.out; omega) h3.out H_hx4.out H_hx4.out hd hd
 have H_hG1 := hid hG1; have H_hd := hid hd; have H_hmul := hid hmul; clear hG1 hd hmul
 go_wp2_with (fail)
 refine H_hmul.out.mono ?_
 rintro e w2 ⟨rfl, p, hpl, hpb, hpv, hpp⟩
 rw [show seg M ox m = xl from H_hx3.out.symm] at hpv
 have hna : NatAt w2 (.slice (some ⟨g, off, none⟩) (m + m) cap) p := by
  have := NatAt.spl hcap hpp.blk (cap := cap) (by omega) h2.out h3.out hpb
  rw [hpl] at this; exact this
 have hno := norm_any _ _ _ (by omega) hna
 have hpk := hpp.keep
 have H_hpl := hid hpl; have H_hpb := hid hpb; have H_hpv := hid hpv; have H_hpp := hid hpp; have H_hna := hid hna; have H_hno := hid hno; have H_hpk := hid hpk; clear hpl hpb hpv hpp hna hno hpk
 go_wp2_with (fail)
 refine H_hno.out.mono ?_
 rintro e w7 ⟨rv, l, rfl, h6, hnorm, hval, hown, rfl⟩
 have H_h6 := hid h6; have H_hnorm := hid hnorm; have H_hval := hid hval; have H_hown := hid hown; clear h6 hnorm hval hown
 go_wp2
 go_ret
 exact ⟨rv, l, rfl, NatOp.of_drewN (NatOp.of h5.out h4.out H_hpk.out H_h6.out (fun k hk => by have := H_hown.out k hk; simpa [Value.ownBlock] using this.symm)), H_hnorm.out, by rw [H_hval.out, H_hpv.out]⟩

theorem nat_sqr (zv xv : Value) (stk : Option Addr) (zl xl : List Nat) (w : World) (hG : Glob w) (hn : 0 < xl.length) (hn12 : xl.length < 12) (h : NatAt w zv zl) (hx : NatAt w xv xl) (hs : Apart zv xv) :
 Calls Tryz.prog 170 #[zv, .pointer stk, xv] w (NatRet w zv (val xl * val xl)) := by
 by_cases h1 : xl.length = 1
 · exact sqr_one zv xv stk zl xl w h1 h hx hs
 · exact sqr_big zv xv stk zl xl w hG (by omega) hn12 h hx hs

end Go.Proofs.YtllencgncinphaaGreatDoor
