/- The contracts of the reference: WholeIn, Whole.String, DecIn, FracOf. -/
import Derived.Test.YtllencgncinphaaGreatDoorKE4
import Derived.Test.YtllencgncinphaaGreatDoorKE5
import Derived.Test.YtllencgncinphaaGreatDoorKE7
import Derived.Test.YtllencgncinphaaGreatDoorKE8
import Derived.Test.YtllencgncinphaaGreatDoorKE10
namespace Go.Proofs.YtllencgncinphaaGreatDoor
open Go.RowKit
open Go.Lib (hid)
set_option maxRecDepth 20000
set_option maxHeartbeats 2000000

theorem WholeIn_any (z : Int) (w : World) (hz : (wdig z).length ≤ 100000) :
 Calls Tryz.prog 99 #[.string (bstr (wdig z))] w (WRet w z) := by
 have hp := fun W => ParseWhole_any z W hz
 obtain ⟨g, hg⟩ : ∃ g, g = w.heap.size := ⟨_, rfl⟩
 generalize bstr (wdig z) = s at *
 clear hz
 have H_hp := hid hp; have H_hg := hid hg; clear hp hg
 go_enter Tryz.func99, Tryz.ntmps99
 go_wp2_with (fail)
 generalize hw1 : w.alloc _ = w1
 have b1 : w1.heap[g]? = some (.cells #[.bool false, .slice none 0 0] 28 (0, 0)) := by rw [← hw1, H_hg.out]; exact heap_alloc_new w _
 have hf1 : Fresh w w1 := by rw [← hw1]; exact (Keep.refl _ _).alloc _
 rw [← H_hg.out]
 have H_b1 := hid b1; have H_hf1 := hid hf1; have H_hw1 := hid hw1; clear b1 hf1 hw1
 refine (H_hp.out w1).mono ?_
 rintro e w2 ⟨x, rfl, ⟨neg, v, l, rfl, h1, h2, h3, h4⟩, h5⟩
 obtain ⟨a, c, rfl⟩ := h1.form
 have hfr := fun o => (Keep.refl (fun _ => False) w2).alloc o
 have b2 := rfr H_b1.out h5
 have p0 := fun o => rwc (rfr b2 (hfr o)) 0
 have p1 := fun o => rwc (rfr b2 (hfr o)) 1
 simp at p0 p1
 have q0 := fun o => (frozen_of_row (w2.alloc o) g 0 _ _ (rfr b2 (hfr o)) : _ = false)
 have q1 := fun o => (frozen_of_row (w2.alloc o) g 1 _ _ (rfr b2 (hfr o)) : _ = false)
 have h6 := fun o => h1.fresh (hfr o)
 have f1 := fun o => (h6 o).off (p0 o) (fun n e => by simp at e)
 have h7 := fun o u u' => (((h6 o).setOff (o := 0) (x := u) (f1 o)).setOff (o := 1) (x := u') (f1 o))
 have b3 := fun o => rfr b2 (hfr o)
 generalize l.length = ll at *
 clear b2 f1 h6
 have H_h1 := hid h1; have H_h2 := hid h2; have H_h3 := hid h3; have H_h4 := hid h4; have H_h5 := hid h5; have H_h7 := hid h7; have H_b3 := hid b3; have H_hfr := hid hfr; clear h1 h2 h3 h4 h5 h7 b3 hfr
 go_wp2_with (fail)
 refine bodyPost_ret (results_cell_row rfl _ _ g 28 #[.bool neg, .slice a ll c] (0, 0) _ rfl (rst (rst (H_b3.out _))) Tryz.underlying28 rfl (by kernel_rfl)) rfl ?_
 exact ⟨_, rfl, ⟨neg, _, l, rfl, H_h7.out _ _ _, H_h2.out, H_h3.out, H_h4.out⟩, ((ftr H_hf1.out (ftr H_h5.out (H_hfr.out _))).setCell (fun h => by have := H_hg.out; change g < w.heap.size at h; omega) _).setCell (fun h => by have := H_hg.out; change g < w.heap.size at h; omega) _⟩

theorem WholeStr_any (x : Value) (z : Int) (w : World) (h : SWh w x z) (hz : z.natAbs < spow 1000) :
 Calls Tryz.prog 98 #[x] w (fun e w' => e = .returned (.string (bstr (wdig z))) ∧ Fresh w w') := by
 obtain ⟨neg, v, l, rfl, h1, h2, h3, rfl⟩ := h
 have habs : (sint neg l).natAbs = sval l := by unfold sint; split <;> simp
 rw [habs] at hz
 have hlen := h2.s_len_le hz
 have hstr := fun W (hW : Fresh w W) => NatStr_any v l W (h1.fresh hW) h2 hlen
 have hfr := fun o => (Keep.refl (fun _ => False) w).alloc o
 obtain ⟨g, hg⟩ : ∃ g, g = w.heap.size := ⟨_, rfl⟩
 obtain ⟨a, c, rfl⟩ := h1.form
 obtain ⟨t, ht⟩ : ∃ t, t = bstr (hdig (sval l)) := ⟨_, rfl⟩
 rw [← ht] at hstr
 cases neg
 · have hres : bstr (wdig (sint false l)) = t := by rw [wdig_nonneg (by simp [sint]), habs, ht]
   rw [hres]
   generalize l.length = ll at *
   clear hz habs hres hlen
   have H_hstr := hid hstr; have H_hfr := hid hfr; have H_h1 := hid h1; have H_h2 := hid h2; have H_h3 := hid h3; have H_ht := hid ht; clear hstr hfr h1 h2 h3 ht
   go_enter Tryz.func98, Tryz.ntmps98
   go_wp2_with (fail)
   refine (H_hstr.out _ (H_hfr.out _)).mono ?_
   rintro e w2 ⟨rfl, h5⟩
   have h6 := ftr (H_hfr.out _) h5
   have H_h5 := hid h5; have H_h6 := hid h6; clear h5 h6
   go_wp2_with (fail)
   go_ret
   exact ⟨rfl, H_h6.out⟩
 · have hl0 : l ≠ [] := fun h => by have := h3 h; cases this
   have hpos : 0 < sval l := (sval_pos_iff h2).1 (List.length_pos_iff.2 hl0)
   have hres : bstr (wdig (sint true l)) = (⟨#[45]⟩ : ByteArray) ++ t := by
    rw [wdig_neg (by simp [sint]; omega), habs, ht, show (⟨#[45]⟩ : ByteArray) = bstr [45] from rfl, bstr_append]; rfl
   rw [hres]
   have hts : t.size ≤ 10000 := by
    rw [ht, bstr_size]
    obtain ⟨k, hk⟩ : ∃ k, k = 1000 := ⟨_, rfl⟩
    rw [← hk, spow_ten] at hz
    have := hdig_len_le hz (by omega)
    omega
   generalize l.length = ll at *
   have h45 : (⟨#[45]⟩ : ByteArray).size = 1 := rfl
   clear hz habs hres hlen hpos hl0
   have H_hstr := hid hstr; have H_hfr := hid hfr; have H_h1 := hid h1; have H_h2 := hid h2; have H_h3 := hid h3; have H_ht := hid ht; clear hstr hfr h1 h2 h3 ht
   go_enter Tryz.func98, Tryz.ntmps98
   go_wp2_with (fail)
   refine (H_hstr.out _ (H_hfr.out _)).mono ?_
   rintro e w2 ⟨rfl, h5⟩
   have h6 := ftr (H_hfr.out _) h5
   have hsum : ¬ (1 + t.size > 9223372036854775807) := by omega
   have H_h5 := hid h5; have H_h6 := hid h6; clear h5 h6
   go_wp2_with (fail)
   go_ret
   exact ⟨rfl, H_h6.out⟩

def dnum (z e : Int) : Int := if 0 ≤ e then z * ((10 ^ e.toNat : Nat) : Int) else z
def dden (e : Int) : Nat := if 0 ≤ e then 1 else 10 ^ (-e).toNat

theorem DecFrac_z (neg : Bool) (v : Value) (l : List Nat) (z e : Int) (w : World) (h : SNat w v l) (hn : Norm l) (hc : l = [] → neg = false) (hz : sint neg l = z) (hlen : l.length ≤ 100000) (he : -3000 ≤ e ∧ e ≤ 3000) :
 Calls Tryz.prog 18 #[.agg #[.bool neg, v, .int .i64 e]] w (FRet w (dnum z e) (dden e)) := by
 subst hz
 unfold dnum dden
 rcases Int.lt_or_le e 0 with h0 | h0
 · obtain ⟨n, rfl⟩ : ∃ n : Nat, e = -(n : Int) := ⟨(-e).toNat, by omega⟩
   rw [if_neg (by omega), if_neg (by omega), show (-(-(n : Int))).toNat = n by omega]
   exact DecFrac_neg neg v l n w h hn hc (by omega) (by omega)
 · obtain ⟨n, rfl⟩ := Int.eq_ofNat_of_zero_le h0
   rw [if_pos h0, if_pos h0, Int.toNat_natCast]
   exact DecFrac_pos neg v l n w h (by omega) (by omega) (by omega)

theorem DecIn_any (z e : Int) (w : World) (hz : (wdig z).length ≤ 100000) :
 Calls Tryz.prog 47 #[.agg #[.string (bstr (wdig z)), .int .i64 e]] w (fun r w' => ∃ neg v l, r = .returned (.agg #[.bool neg, v, .int .i64 e]) ∧ SNat w' v l ∧ Norm l ∧ (l = [] → neg = false) ∧ sint neg l = z ∧ Fresh w w') := by
 have hp := fun W => WholeIn_any z W hz
 obtain ⟨g, hg⟩ : ∃ g, g = w.heap.size := ⟨_, rfl⟩
 generalize bstr (wdig z) = s at *
 have bx := boxes2 w #[.string s, .int .i64 e] #[.bool false, .slice none 0 0, .int .i64 0] 23 38 g hg
 clear hz
 have H_hp := hid hp; have H_bx := hid bx; clear hp bx
 go_enter Tryz.func47, Tryz.ntmps47
 go_wp2_with (fail)
 generalize hw1 : (w.alloc _).alloc _ = w1
 rw [← hg]
 obtain ⟨b1, b2, hf⟩ := H_bx.out w1 hw1
 have k0 := rwc b1 0
 have k1 := rwc b1 1
 simp at k0 k1
 have H_b1 := hid b1; have H_b2 := hid b2; have H_hf := hid hf; have H_hw1 := hid hw1; have H_hg := hid hg; clear b1 b2 hf hw1 hg
 go_region_held3 (fun (w' : World) => w'.cell? ⟨g, 0, none⟩ = some (.string s) ∧ w'.cell? ⟨g, 1, none⟩ = some (.int .i64 e)) (first | exact ⟨k0, k1⟩ | exact ⟨m0, m1⟩ | exact ⟨far3 (by omega) m0, far3 (by omega) m1⟩) (first
  | (go_at_call 99; (with_reducible refine (H_hp.out _).mono ?_); rintro e w2 ⟨x, rfl, ⟨neg, v, l, rfl, h1, h2, h3, h4⟩, r⟩; obtain ⟨a, c, rfl⟩ := h1.form; have hf0 : Fresh w1 w2 := (by first | exact r | exact r.of_drew | exact r.of_drewN); have m0 := cfr k0 hf0; have m1 := cfr k1 hf0; have b3 := rfr H_b2.out hf0; have p0 := rwc b3 0; have p1 := rwc b3 1; have p2 := rwc b3 2; simp at p0 p1 p2; have q0 : w2.frozen? ⟨g + 1, 0, none⟩ = false := frozen_of_row _ _ _ _ _ b3; have q1 : w2.frozen? ⟨g + 1, 1, none⟩ = false := frozen_of_row _ _ _ _ _ b3; have q2 : w2.frozen? ⟨g + 1, 2, none⟩ = false := frozen_of_row _ _ _ _ _ b3; have H_h1 := hid h1; have H_h2 := hid h2; have H_h3 := hid h3; have H_h4 := hid h4; have H_hf0 := hid hf0; have H_b3 := hid b3; clear h1 h2 h3 h4 r hf0 b3))
 go_wp2
 refine bodyPost_ret (results_cell_row rfl _ _ (g + 1) 38 #[.bool neg, .slice a l.length c, .int .i64 e] (0, 0) _ rfl (rst (rst (rst H_b3.out))) Tryz.underlying38 rfl (by kernel_rfl)) rfl ?_
 have f1 := H_h1.out.off p0 (fun n e => by simp at e)
 exact ⟨neg, _, l, rfl, ((H_h1.out.setOff f1).setOff f1).setOff f1, H_h2.out, H_h3.out, H_h4.out, (ftr H_hf.out H_hf0.out).set3 (by have := H_hg.out; omega)⟩

theorem FracOf_any (z e : Int) (w : World) (hz : (wdig z).length ≤ 10000) (he : -3000 ≤ e ∧ e ≤ 3000) :
 Calls Tryz.prog 40 #[.agg #[.string (bstr (wdig z)), .int .i64 e]] w (FRet w (dnum z e) (dden e)) := by
 have hp := fun W => DecIn_any z e W (by omega)
 have hlz : ∀ l : List Nat, ∀ neg : Bool, Norm l → sint neg l = z → l.length ≤ 100000 := fun l neg hn h => by
  have e1 : sval l = z.natAbs := by rw [← h]; unfold sint; split <;> simp
  obtain ⟨p, hp0⟩ : ∃ p, p = 10000 := ⟨_, rfl⟩
  rw [← hp0] at hz
  have h1 := wdig_lt hz
  rw [← e1] at h1
  refine Nat.le_trans (hn.s_len_le (k := p) (Nat.lt_of_lt_of_le h1 ?_)) (by omega)
  rw [spow_ten]
  exact Nat.pow_le_pow_right (by omega) (by omega)
 have hfrac := fun W neg v l h hn hc hs => DecFrac_z neg v l z e W h hn hc hs (hlz l neg hn hs) he
 obtain ⟨g, hg⟩ : ∃ g, g = w.heap.size := ⟨_, rfl⟩
 generalize bstr (wdig z) = s at *
 generalize dnum z e = N at *
 generalize dden e = D at *
 have bx := boxes2 w #[.string s, .int .i64 e] #[.bool false, .slice none 0 0, .slice none 0 0] 23 30 g hg
 clear hz hlz
 have H_hp := hid hp; have H_bx := hid bx; have H_hfrac := hid hfrac; have H_he := hid he; clear hp bx hfrac he
 go_enter Tryz.func40, Tryz.ntmps40
 go_wp2_with (fail)
 generalize hw1 : (w.alloc _).alloc _ = w1
 rw [← hg]
 obtain ⟨b1, b2, hf⟩ := H_bx.out w1 hw1
 have k0 := rwc b1 0
 have k1 := rwc b1 1
 simp at k0 k1
 have H_b1 := hid b1; have H_b2 := hid b2; have H_hf := hid hf; have H_hw1 := hid hw1; have H_hg := hid hg; clear b1 b2 hf hw1 hg
 go_wp2_with (fail)
 refine (H_hp.out _).mono ?_
 rintro r w2 ⟨neg, v, l, rfl, h1, h2, h3, h4, h5⟩
 have hfr := H_hfrac.out w2 neg v l h1 h2 h3 h4
 obtain ⟨a, c, rfl⟩ := h1.form
 have b3 := rfr H_b2.out h5
 clear k0 k1
 have H_h1 := hid h1; have H_h2 := hid h2; have H_h3 := hid h3; have H_h4 := hid h4; have H_h5 := hid h5; have H_hfr := hid hfr; have H_b3 := hid b3; clear h1 h2 h3 h4 h5 hfr b3
 go_wp2_with (fail)
 refine H_hfr.out.mono ?_
 rintro r w3 ⟨x, rfl, ⟨neg', v', l', v2, l2, rfl, y1, y2, y3, y4, y5, y6, y7⟩, h6⟩
 obtain ⟨a', c', rfl⟩ := y1.form
 obtain ⟨a2, c2, rfl⟩ := y5.form
 have b4 := rfr H_b3.out h6
 have p0 := rwc b4 0
 have p1 := rwc b4 1
 have p2 := rwc b4 2
 simp at p0 p1 p2
 have q0 : w3.frozen? ⟨g + 1, 0, none⟩ = false := frozen_of_row _ _ _ _ _ b4
 have q1 : w3.frozen? ⟨g + 1, 1, none⟩ = false := frozen_of_row _ _ _ _ _ b4
 have q2 : w3.frozen? ⟨g + 1, 2, none⟩ = false := frozen_of_row _ _ _ _ _ b4
 have f1 := y1.off p0 (fun n e => by simp at e)
 have f2 := y5.off p0 (fun n e => by simp at e)
 have r1 := fun u u' u'' => ((y1.setOff (o := 0) (x := u) f1).setOff (o := 1) (x := u') f1).setOff (o := 2) (x := u'') f1
 have r2 := fun u u' u'' => ((y5.setOff (o := 0) (x := u) f2).setOff (o := 1) (x := u') f2).setOff (o := 2) (x := u'') f2
 clear f1 f2
 have H_y1 := hid y1; have H_y2 := hid y2; have H_y3 := hid y3; have H_y4 := hid y4; have H_y5 := hid y5; have H_y6 := hid y6; have H_y7 := hid y7; have H_h6 := hid h6; have H_b4 := hid b4; have H_r1 := hid r1; have H_r2 := hid r2; clear y1 y2 y3 y4 y5 y6 y7 h6 b4 r1 r2
 go_wp2_with (fail)
 refine bodyPost_ret (results_cell_row rfl _ _ (g + 1) 30 #[.bool neg', .slice a' l'.length c', .slice a2 l2.length c2] (0, 0) _ rfl (rst (rst (rst H_b4.out))) Tryz.underlying30 rfl (by kernel_rfl)) rfl ?_
 exact ⟨_, rfl, ⟨neg', _, l', _, l2, rfl, H_r1.out _ _ _, H_y2.out, H_y3.out, H_y4.out, H_r2.out _ _ _, H_y6.out, H_y7.out⟩, (ftr H_hf.out (ftr H_h5.out H_h6.out)).set3 (by have := H_hg.out; omega)⟩

theorem zzFits1_any (s : ByteArray) (e : Int) (w : World) (hmax : s.size ≤ 9223372036854775807) :
 Calls Tryz.prog 12 #[.agg #[.string s, .int .i64 e]] w (fun r w' => r = .returned (.bool (decide (s.size ≤ 2147483647))) ∧ Fresh w w') := by
 have hfr := fun o => (Keep.refl (fun _ => False) w).alloc o
 have h : (decide ((2147483647 : Int) < (s.size : Int)) = true ∧ decide (s.size ≤ 2147483647) = false) ∨ (decide ((2147483647 : Int) < (s.size : Int)) = false ∧ decide (s.size ≤ 2147483647) = true) := by
  by_cases h1 : s.size ≤ 2147483647
  · exact .inr ⟨by simp; omega, by simp; omega⟩
  · exact .inl ⟨by simp; omega, by simp; omega⟩
 have H_hfr := hid hfr; clear hfr
 rcases h with ⟨h1, h2⟩ | ⟨h1, h2⟩
 all_goals
  go_enter Tryz.func12, Tryz.ntmps12
  go_wp2
  go_ret
  exact ⟨by simp_all, H_hfr.out _⟩

theorem Sound_any (z e : Int) (w : World) (hz : (wdig z).length ≤ 1000) (hz2 : z.natAbs < spow 1000) (he : -3000 < e ∧ e < 3000) :
 Calls Tryz.prog 46 #[.agg #[.string (bstr (wdig z)), .int .i64 e]] w (fun r w' => r = .returned (.bool true) ∧ Fresh w w') := by
 have hp := fun W => ParseWhole_any z W (by omega)
 have hs := fun x W (hx : SWh W x z) => WholeStr_any x z W hx hz2
 obtain ⟨g, hg⟩ : ∃ g, g = w.heap.size := ⟨_, rfl⟩
 obtain ⟨he1, he2⟩ := he
 have t1 : decide (-3000 < e) = true := by simp; omega
 have t2 : decide (e < 3000) = true := by simp; omega
 generalize bstr (wdig z) = s at *
 clear hz hz2
 have H_hp := hid hp; have H_hs := hid hs; have H_hg := hid hg; clear hp hs hg
 go_enter Tryz.func46, Tryz.ntmps46
 go_wp2_with (fail)
 generalize hw1 : w.alloc _ = w1
 have b1 : w1.heap[g]? = some (.cells #[.string s, .int .i64 e] 23 (0, 0)) := by rw [← hw1, H_hg.out]; exact heap_alloc_new w _
 have hf1 : Fresh w w1 := by rw [← hw1]; exact (Keep.refl _ _).alloc _
 rw [← H_hg.out]
 have k0 := rwc b1 0
 have k1 := rwc b1 1
 simp at k0 k1
 have H_b1 := hid b1; have H_hf1 := hid hf1; have H_hw1 := hid hw1; clear b1 hf1 hw1
 go_wp2_with (fail)
 refine (H_hp.out w1).mono ?_
 rintro r w2 ⟨x, rfl, ⟨neg, v, l, rfl, h1, h2, h3, h4⟩, h5⟩
 obtain ⟨a, c, rfl⟩ := h1.form
 have hsx : SWh w2 (.agg #[.bool neg, .slice a l.length c]) z := ⟨neg, _, l, rfl, h1, h2, h3, h4⟩
 obtain ⟨h, hh⟩ : ∃ h, h = w2.heap.size := ⟨_, rfl⟩
 have k0 := cfr k0 h5
 have k1 := cfr k1 h5
 have f2 := ftr H_hf1.out h5
 generalize l.length = ll at *
 have H_h1 := hid h1; have H_h2 := hid h2; have H_h3 := hid h3; have H_h4 := hid h4; have H_h5 := hid h5; have H_hsx := hid hsx; have H_hh := hid hh; have H_f2 := hid f2; clear h1 h2 h3 h4 h5 hsx hh f2
 go_wp2_with (fail)
 generalize hw3 : w2.alloc _ = w3
 have f3 : Fresh w2 w3 := by rw [← hw3]; exact (Keep.refl _ _).alloc _
 have r3 : w3.heap[h]? = some (.cells #[.bool neg, .slice a ll c] 28 (0, 0)) := by rw [← hw3, H_hh.out]; exact heap_alloc_new w2 _
 rw [← H_hh.out]
 have n0 := rwc r3 0
 have n1 := rwc r3 1
 simp at n0 n1
 have k0 := cfr k0 f3
 have k1 := cfr k1 f3
 have hst := fun W (hW : Fresh w3 W) => H_hs.out _ W (H_hsx.out.fresh (ftr f3 hW))
 have f4 := ftr H_f2.out f3
 have H_hw3 := hid hw3; have H_f3 := hid f3; have H_r3 := hid r3; have H_hst := hid hst; have H_f4 := hid f4; clear hw3 f3 r3 hst f4
 go_region_held3 (fun (w' : World) => w'.cell? ⟨g, 0, none⟩ = some (.string s) ∧ w'.cell? ⟨g, 1, none⟩ = some (.int .i64 e) ∧ w'.cell? ⟨h, 0, none⟩ = some (.bool neg) ∧ w'.cell? ⟨h, 1, none⟩ = some (.slice a ll c)) (first | exact ⟨k0, k1, n0, n1⟩ | exact ⟨j0, j1, m0, m1⟩) (first
  | (go_at_call 98; (with_reducible refine (H_hst.out _ ?c1).mono ?_); (case c1 => first | exact Keep.refl _ _ | exact (Keep.refl _ _).drew | exact (Keep.refl _ _).drewN _); rintro r w4 ⟨rfl, x4⟩; have y4 : Fresh w3 w4 := (by first | exact x4 | exact x4.of_drew | exact x4.of_drewN); have j0 := cfr k0 y4; have j1 := cfr k1 y4; have m0 := cfr n0 y4; have m1 := cfr n1 y4; have H_y4 := hid y4; clear x4 y4))
 go_wp2
 go_ret
 exact ⟨rfl, ftr H_f4.out H_y4.out⟩

theorem cmpZ_eq {a b : Int} (h : a = b) : cmpZ a b = 0 := by unfold cmpZ; rw [if_neg (by omega), if_neg (by omega)]

theorem Says_any (z e zw : Int) (dw : Nat) (xw : Value) (w : World) (hz : (wdig z).length ≤ 1000) (hz2 : z.natAbs < spow 1000) (he : -3000 < e ∧ e < 3000) (hw : SFr w xw zw dw)
 (h1 : (dnum z e).natAbs < spow 1000) (h2 : zw.natAbs < spow 1000) (h3 : dden e < spow 1000) (h4 : dw < spow 1000) (heq : dnum z e * dw = zw * dden e) :
 Calls Tryz.prog 16 #[.agg #[.string (bstr (wdig z)), .int .i64 e], xw] w (fun r w' => r = .returned (.bool true) ∧ Fresh w w') := by
 have hsd := fun W => Sound_any z e W hz hz2 he
 have hin := fun W => DecIn_any z e W (by omega)
 have hlen : ∀ neg l, Norm l → sint neg l = z → l.length ≤ 100000 := fun neg l hn h => by
  have e1 : sval l = z.natAbs := by rw [← h]; unfold sint; split <;> simp
  have := hn.s_len_le (k := 1000) (show sval l < spow 1000 by rw [e1]; exact hz2)
  omega
 have hfr := fun neg v l W (g1 : SNat W v l) (g2 : Norm l) (g3 : l = [] → neg = false) (g4 : sint neg l = z) => DecFrac_z neg v l z e W g1 g2 g3 g4 (hlen neg l g2 g4) (by omega)
 have hcm := fun x W (hx : SFr W x (dnum z e) (dden e)) (hy : SFr W xw zw dw) => FracCmp_any x xw _ _ _ _ W hx hy h1 h2 h3 h4
 rw [cmpZ_eq heq] at hcm
 clear h1 h2 h3 h4 heq hlen hz hz2 he
 generalize bstr (wdig z) = s at *
 generalize dnum z e = Z at *
 generalize dden e = D at *
 obtain ⟨nb, v2, l2, dv, dl, rfl, s1, s2, s3, s4, s5, s6, s7⟩ := hw
 obtain ⟨a2, cc2, rfl⟩ := s1.form
 obtain ⟨a3, cc3, rfl⟩ := s5.form
 have hx : SFr w (.agg #[.bool nb, .slice a2 l2.length cc2, .slice a3 dl.length cc3]) zw dw := ⟨nb, _, l2, _, dl, rfl, s1, s2, s3, s4, s5, s6, s7⟩
 obtain ⟨g, hg⟩ : ∃ g, g = w.heap.size := ⟨_, rfl⟩
 generalize l2.length = ll2 at *
 generalize dl.length = ll3 at *
 have bx := boxes2 w #[.string s, .int .i64 e] #[.bool nb, .slice a2 ll2 cc2, .slice a3 ll3 cc3] 23 30 g hg
 clear s1 s2 s3 s4 s5 s6 s7
 have H_bx := hid bx; have H_hx := hid hx; have H_hsd := hid hsd; have H_hin := hid hin; have H_hfr := hid hfr; have H_hcm := hid hcm; clear bx hx hsd hin hfr hcm
 go_enter Tryz.func16, Tryz.ntmps16
 go_wp2_with (fail)
 generalize hw1 : (w.alloc _).alloc _ = w1
 rw [← hg]
 obtain ⟨b1, b2, hf⟩ := H_bx.out w1 hw1
 have k0 := rwc b1 0
 have k1 := rwc b1 1
 have k3 := rwc b2 0
 have k4 := rwc b2 1
 have k5 := rwc b2 2
 simp at k0 k1 k3 k4 k5
 have H_b1 := hid b1; have H_b2 := hid b2; have H_hf := hid hf; have H_hw1 := hid hw1; have H_hg := hid hg; clear b1 b2 hf hw1 hg
 go_wp2_with (fail)
 go_region_held3 (fun (w' : World) => w'.cell? ⟨g, 0, none⟩ = some (.string s) ∧ w'.cell? ⟨g, 1, none⟩ = some (.int .i64 e) ∧ w'.cell? ⟨g + 1, 0, none⟩ = some (.bool nb) ∧ w'.cell? ⟨g + 1, 1, none⟩ = some (.slice a2 ll2 cc2) ∧ w'.cell? ⟨g + 1, 2, none⟩ = some (.slice a3 ll3 cc3)) (first | exact ⟨k0, k1, k3, k4, k5⟩ | exact ⟨m0, m1, m3, m4, m5⟩ | exact ⟨n0, n1, n3, n4, n5⟩ | exact ⟨o0, o1, o3, o4, o5⟩ | exact ⟨u0, u1, u3, u4, u5⟩) (first
  | (go_at_call 46; (with_reducible refine (H_hsd.out _).mono ?_); rintro r w2 ⟨rfl, y⟩; have y2 : Fresh w1 w2 := (by first | exact y | exact y.of_drew | exact y.of_drewN); have m0 := cfr k0 y2; have m1 := cfr k1 y2; have m3 := cfr k3 y2; have m4 := cfr k4 y2; have m5 := cfr k5 y2; have H_f2 := hid (ftr H_hf.out y2); clear y y2)
  | (go_at_call 47; (with_reducible refine (H_hin.out _).mono ?_); rintro r w3 ⟨neg, v, l, rfl, g1, g2, g3, g4, y⟩; have y3 : Fresh w2 w3 := (by first | exact y | exact y.of_drew | exact y.of_drewN); have n0 := cfr m0 y3; have n1 := cfr m1 y3; have n3 := cfr m3 y3; have n4 := cfr m4 y3; have n5 := cfr m5 y3; have H_f3 := hid (ftr H_f2.out y3); have H_fx := hid (fun W (hW : SNat W v l) => H_hfr.out neg v l W hW g2 g3 g4); have H_g1 := hid g1; clear y y3 g1 g2 g3 g4)
  | (go_at_call 18; (with_reducible refine (H_fx.out _ H_g1.out).mono ?_); rintro r w4 ⟨x, rfl, hx4, y⟩; have y4 : Fresh w3 w4 := (by first | exact y | exact y.of_drew | exact y.of_drewN); have o0 := cfr n0 y4; have o1 := cfr n1 y4; have o3 := cfr n3 y4; have o4 := cfr n4 y4; have o5 := cfr n5 y4; have H_f4 := hid (ftr H_f3.out y4); have H_x4 := hid hx4; clear y y4 hx4)
  | (go_at_call 48; (with_reducible refine (H_hcm.out _ _ H_x4.out (H_hx.out.fresh H_f4.out)).mono ?_); rintro r w5 ⟨rfl, y⟩; have y5 : Fresh w4 w5 := (by first | exact y | exact y.of_drew | exact y.of_drewN); have u0 := cfr o0 y5; have u1 := cfr o1 y5; have u3 := cfr o3 y5; have u4 := cfr o4 y5; have u5 := cfr o5 y5; have H_f5 := hid (ftr H_f4.out y5); clear y y5))
 go_wp2
 go_ret
 exact ⟨rfl, H_f5.out⟩

def hv : List Nat → Nat
 | [] => 0
 | x :: xs => x + 4294967296 * hv xs

def hpw (n : Nat) : Nat := 4294967296 ^ n

theorem hpw_zero : hpw 0 = 1 := rfl
theorem hpw_succ (n : Nat) : hpw (n + 1) = 4294967296 * hpw n := by unfold hpw; rw [Nat.pow_succ, Nat.mul_comm]
theorem hpw_pos (n : Nat) : 0 < hpw n := by unfold hpw; exact Nat.pow_pos (by omega)
theorem hpw_mono {m n : Nat} (h : m ≤ n) : hpw m ≤ hpw n := by unfold hpw; exact Nat.pow_le_pow_right (by omega) h
theorem hpw_two (n : Nat) : hpw (2 * n) = wpow n := by unfold hpw wpow; rw [Nat.pow_mul]

def Half (l : List Nat) : Prop := ∀ x ∈ l, x < 4294967296

theorem Half.nil : Half [] := fun x h => by cases h
theorem Half.append {l m : List Nat} (h : Half l) (k : Half m) : Half (l ++ m) := fun x hx => by
 rcases List.mem_append.1 hx with h1 | h1
 · exact h x h1
 · exact k x h1
theorem Half.one {x : Nat} (h : x < 4294967296) : Half [x] := fun y hy => by simp at hy; subst hy; exact h
theorem Half.take {l : List Nat} (h : Half l) (n : Nat) : Half (l.take n) := fun x hx => h x (List.mem_of_mem_take hx)
theorem Half.drop {l : List Nat} (h : Half l) (n : Nat) : Half (l.drop n) := fun x hx => h x (List.mem_of_mem_drop hx)
theorem Half.getD {l : List Nat} (h : Half l) (k : Nat) : l.getD k 0 < 4294967296 := getD_lt h (by omega) k
theorem Half.set {l : List Nat} (h : Half l) (k : Nat) {x : Nat} (hx : x < 4294967296) : Half (l.set k x) := fun y hy => by
 rcases List.mem_or_eq_of_mem_set hy with h1 | h1
 · exact h y h1
 · omega

theorem hv_append (xs ys : List Nat) : hv (xs ++ ys) = hv xs + hpw xs.length * hv ys := by
 induction xs with
 | nil => simp [hv, hpw_zero]
 | cons x xs ih =>
   simp only [List.cons_append, hv, ih, List.length_cons, hpw_succ, Nat.mul_add, Nat.mul_assoc]
   omega

theorem hv_take_succ {l : List Nat} {k : Nat} (h : k < l.length) : hv (l.take (k + 1)) = hv (l.take k) + hpw k * l.getD k 0 := by
 have e : l.take (k + 1) = l.take k ++ [l.getD k 0] := by
  rw [List.take_succ_eq_append_getElem h]; simp [List.getD, h]
 rw [e, hv_append]
 simp [hv, Nat.min_eq_left (Nat.le_of_lt h)]

theorem hv_drop_cons {l : List Nat} {k : Nat} (h : k < l.length) : hv (l.drop k) = l.getD k 0 + 4294967296 * hv (l.drop (k + 1)) := by
 rw [List.drop_eq_getElem_cons h]; simp [hv, List.getD, h]

theorem take_set_succ {l : List Nat} {k x : Nat} (h : k < l.length) : (l.set k x).take (k + 1) = l.take k ++ [x] := by
 rw [List.take_succ_eq_append_getElem (by simpa using h)]
 have e : (l.set k x).take k = l.take k := by rw [List.take_set_of_le (Nat.le_refl _)]
 rw [e]
 simp

theorem getD_set_ne {l : List Nat} {k j x : Nat} (h : k ≠ j) : (l.set k x).getD j 0 = l.getD j 0 := by
 simp [List.getD, List.getElem?_set_ne h]

theorem drop_set_self {l : List Nat} {k x : Nat} (h : k < l.length) : (l.set k x).drop k = x :: l.drop (k + 1) := by
 rw [List.drop_eq_getElem_cons (by simpa using h)]
 simp [List.drop_set]

theorem whole_step {M L : List Nat} {k n n0 sc t : Nat} (hk : k < M.length) (hML : M.length = L.length) (hrest : M.drop k = L.drop k) (hval : hv (M.take k) + hpw k * n = n0 + sc * hv (L.take k)) (ht : t = n + L.getD k 0 * sc) :
 hv ((M.set k (t % 4294967296)).take (k + 1)) + hpw (k + 1) * (t / 4294967296) = n0 + sc * hv (L.take (k + 1)) ∧ (M.set k (t % 4294967296)).drop (k + 1) = L.drop (k + 1) ∧ M.getD k 0 = L.getD k 0 := by
 refine ⟨?_, ?_, ?_⟩
 · rw [take_set_succ hk, hv_append, hv_take_succ (by omega)]
   simp only [hv, List.length_take, Nat.min_eq_left (Nat.le_of_lt hk), Nat.mul_zero, Nat.add_zero]
   rw [hpw_succ, Nat.mul_add, ← Nat.add_assoc, ← hval]
   have e : t % 4294967296 + 4294967296 * (t / 4294967296) = t := Nat.mod_add_div _ _
   have e2 : hpw k * (t % 4294967296) + 4294967296 * hpw k * (t / 4294967296) = hpw k * t := by
    conv => rhs; rw [← e]
    rw [Nat.mul_add, Nat.mul_comm 4294967296 (hpw k), Nat.mul_assoc]
   rw [Nat.add_assoc, e2, ht, Nat.mul_add, Nat.add_assoc]
   congr 2
   rw [Nat.mul_comm (L.getD k 0) sc, ← Nat.mul_assoc, ← Nat.mul_assoc, Nat.mul_comm (hpw k) sc]
 · rw [List.drop_set_of_lt (by omega)]
   have := congrArg (fun l => l.drop 1) hrest
   simpa [List.drop_drop, Nat.add_comm] using this
 · have := congrArg (fun l => l.getD 0 0) hrest
   simpa [List.getD] using this

theorem whole_carry {n x sc : Nat} (hn : n < 1000000000) (hx : x < 4294967296) (hs : sc ≤ 1000000000) : n + x * sc < 18446744073709551616 ∧ (n + x * sc) / 4294967296 < 1000000000 ∧ x * sc < 18446744073709551616 := by
 have h1 : x * sc ≤ 4294967295 * 1000000000 := Nat.mul_le_mul (by omega) hs
 omega

theorem digits_step {M L : List Nat} {k n q t : Nat} (hk : k < M.length) (hML : M.length = L.length) (hrest : M.take (k + 1) = L.take (k + 1)) (hval : hv (L.drop (k + 1)) = n + 1000000000 * hv (M.drop (k + 1))) (ht : t = n * 4294967296 + L.getD k 0) (hq : q = t / 1000000000) :
 hv (L.drop k) = t % 1000000000 + 1000000000 * hv ((M.set k q).drop k) ∧ (M.set k q).take k = L.take k ∧ M.getD k 0 = L.getD k 0 := by
 refine ⟨?_, ?_, ?_⟩
 · rw [drop_set_self hk, hv_drop_cons (by omega), hval]
   simp only [hv]
   subst hq; subst ht
   generalize L.getD k 0 = x
   generalize hv (M.drop (k + 1)) = y
   omega
 · rw [List.take_set_of_le (by omega)]
   have := congrArg (fun l => l.take k) hrest
   simpa [List.take_take, Nat.min_eq_left (Nat.le_succ k)] using this
 · have := congrArg (fun l => l.getD k 0) hrest
   simpa [List.getD, List.getElem?_take] using this

theorem val_set_add {L : List Nat} {q y : Nat} (h : q < L.length) : val (L.set q y) + wpow q * L.getD q 0 = val L + wpow q * y := by
 have h1 := val_at (l := L) h
 have h2 := val_at (l := L.set q y) (k := q) (by simpa using h)
 have e1 : (L.set q y).take q = L.take q := by rw [List.take_set_of_le (Nat.le_refl _)]
 have e2 : (L.set q y).drop (q + 1) = L.drop (q + 1) := by rw [List.drop_set_of_lt (by omega)]
 have e3 : (L.set q y).getD q 0 = y := by rw [tx_getD_set h, if_pos rfl]
 rw [e1, e2, e3] at h2
 rw [h1, h2, Nat.mul_add, Nat.mul_add]
 omega

theorem words_even {W l : List Nat} {i x : Nat} (hi : i < l.length) (hlen : W.length = (i + 1) / 2) (hev : i % 2 = 0) (hval : val W = hv (l.take i)) (hx : x = l.getD i 0) :
 val (W ++ [x]) = hv (l.take (i + 1)) ∧ (W ++ [x]).length = (i + 1 + 1) / 2 ∧ (W ++ [x]).getD ((i + 1) / 2) 0 = x := by
 have h2 : i = 2 * W.length := by omega
 refine ⟨?_, by simp; omega, ?_⟩
 · rw [val_append, hv_take_succ hi, hval, ← hx]
   conv => rhs; rw [h2, hpw_two]
   simp [val, ← h2]
 · rw [show (i + 1) / 2 = W.length by omega]
   simp [List.getD]

theorem words_odd {W l : List Nat} {i q a x : Nat} (hi : i < l.length) (hlen : W.length = (i + 1) / 2) (hod : i = 2 * q + 1) (hval : val W = hv (l.take i)) (hx : x = l.getD i 0) (ha : a = W.getD q 0) :
 val (W.set q (a + x * 4294967296)) = hv (l.take (i + 1)) ∧ (W.set q (a + x * 4294967296)).length = (i + 1 + 1) / 2 := by
 have hq : q < W.length := by omega
 refine ⟨?_, by simp; omega⟩
 have h1 := val_set_add (y := a + x * 4294967296) hq
 rw [← ha, hval, Nat.mul_add] at h1
 rw [hv_take_succ hi, ← hx]
 conv => rhs; rw [hod, hpw_succ, hpw_two]
 rw [← hod, Nat.mul_comm 4294967296 (wpow q), Nat.mul_assoc, Nat.mul_comm 4294967296 x]
 omega

theorem or_half {a x : Nat} (ha : a < 4294967296) (hx : x < 4294967296) : bits BinOp.or IntKind.u64 (a : Int) ((x * 4294967296 : Nat) : Int) = ((a + x * 4294967296 : Nat) : Int) ∧ bits BinOp.or IntKind.u64 ((x * 4294967296 : Nat) : Int) (a : Int) = ((a + x * 4294967296 : Nat) : Int) := by
 have h1 := Nat.shiftLeft_add_eq_or_of_lt (show a < 2 ^ 32 by omega) x
 rw [Nat.shiftLeft_eq] at h1
 constructor
 · rw [bits_or_u64_nat _ _ (by omega) (by omega), Nat.or_comm, ← h1]; congr 1; omega
 · rw [bits_or_u64_nat _ _ (by omega) (by omega), ← h1]; congr 1; omega

theorem halves_step {H l : List Nat} {k x : Nat} (hk : k < l.length) (hlen : H.length = 2 * k) (hval : hv H = val (l.take k)) (hx : x = l.getD k 0) :
 hv (H ++ [x % 4294967296, x / 4294967296]) = val (l.take (k + 1)) := by
 rw [hv_append, hlen, hpw_two, hval, val_take_succ hk, ← hx]
 simp only [hv]
 congr 2
 omega

theorem emit_step {M : List Nat} {B b n j : Nat} (h : dval M = B + 10 ^ b * (n % 10 ^ j)) (hl : M.length = b + j) :
 dval (M ++ [48 + n / 10 ^ j % 10]) = B + 10 ^ b * (n % 10 ^ (j + 1)) := by
 rw [dval_append, h, hl, Nat.pow_add, Nat.mod_pow_succ]
 simp only [dval, Nat.add_sub_cancel_left, Nat.mul_zero, Nat.add_zero]
 rw [Nat.mul_add, Nat.mul_assoc, Nat.add_assoc]

theorem fit_text {B : List Nat} (hB : IsD B) (hh : B.getD 0 0 ≠ 48) (neg : Bool) (p : Nat) (hp : B.length ≤ p) (h0 : 0 < B.length) :
 ∃ z : Int, (if neg then 45 :: B else B) = wdig z ∧ z.natAbs < 10 ^ p := by
 obtain ⟨e, hpos⟩ := hdig_of hB h0 hh
 have hlt := dval_lt hB.reverse
 have h2 : 10 ^ B.reverse.length ≤ 10 ^ p := Nat.pow_le_pow_right (by omega) (by simpa using hp)
 cases neg
 · refine ⟨(dval B.reverse : Int), ?_, by simp; omega⟩
   rw [wdig_nonneg (by omega)]
   simpa using e
 · refine ⟨-(dval B.reverse : Int), ?_, by simp; omega⟩
   rw [wdig_neg (by omega)]
   simpa using e

def NumRow (k : IntKind) (w : World) (base : Nat) (T : TypeId) (v : Value) (l : List Nat) : Prop :=
 (v = .slice none 0 0 ∧ l = []) ∨
 ∃ (g cap : Nat) (L : List Nat), v = .slice (some ⟨g, 0, none⟩) l.length cap ∧ base ≤ g ∧ w.heap[g]? = some (.cells (L.map (wd k)).toArray T (0, 0)) ∧ l.length ≤ cap ∧ cap ≤ maxLen ∧ L.length = cap ∧ L.take l.length = l ∧ ∀ x ∈ L.drop l.length, x = 0

section
variable {k : IntKind} {w w' : World} {base : Nat} {T : TypeId} {v : Value} {l : List Nat}

theorem NumRow.nil (k : IntKind) (w : World) (base : Nat) (T : TypeId) : NumRow k w base T (.slice none 0 0) [] := .inl ⟨rfl, rfl⟩

theorem NumRow.owns (h : NumRow k w base T v l) : w.ownsRow base T 1 v l.length (l.map (wd k)) := by
 refine ⟨by simp, ?_⟩
 rcases h with ⟨rfl, rfl⟩ | ⟨g, cap, L, rfl, h1, h2, h3, h4, h5, h6, _⟩
 · exact .inl ⟨rfl, rfl⟩
 · exact .inr ⟨g, cap, _, rfl, h1, h2, h3, h4, by simp [h5], by
    rw [Nat.mul_one]
    conv => rhs; rw [← h6]
    simp [List.map_take]⟩

theorem NumRow.form (h : NumRow k w base T v l) : ∃ a c, v = .slice a l.length c := by
 rcases h with ⟨rfl, rfl⟩ | ⟨g, cap, L, rfl, _⟩
 · exact ⟨none, 0, rfl⟩
 · exact ⟨_, _, rfl⟩

theorem NumRow.pos (h : NumRow k w base T v l) (hl : 0 < l.length) : ∃ g cap L, v = .slice (some ⟨g, 0, none⟩) l.length cap ∧ base ≤ g ∧ Blk k w g L ∧ l.length ≤ cap ∧ cap ≤ 9223372036854775807 ∧ L.length = cap ∧ L.take l.length = l := by
 rcases h with ⟨rfl, rfl⟩ | ⟨g, cap, L, rfl, h1, h2, h3, h4, h5, h6, _⟩
 · simp at hl
 · exact ⟨g, cap, L, rfl, h1, ⟨T, h2⟩, h3, by unfold maxLen at h4; omega, h5, h6⟩

theorem NumRow.of_block (h : NumRow k w base T v l) (hb : ∀ g, v.ownBlock = some g → w'.heap[g]? = w.heap[g]?) : NumRow k w' base T v l := by
 rcases h with ⟨rfl, rfl⟩ | ⟨g, cap, L, rfl, h1, h2, h3⟩
 · exact .inl ⟨rfl, rfl⟩
 · exact .inr ⟨g, cap, L, rfl, h1, (hb g rfl).trans h2, h3⟩

theorem NumRow.lt (h : NumRow k w base T v l) : ∀ g, v.ownBlock = some g → base ≤ g ∧ g < w.heap.size := h.owns.lt

theorem NumRow.keep {S : Nat → Prop} (h : NumRow k w base T v l) (hk : Keep S w w') (hs : ∀ g, v.ownBlock = some g → ¬ S g) : NumRow k w' base T v l :=
 h.of_block (fun g hg => hk.block g (h.lt g hg).2 (hs g hg))

theorem NumRow.alloc (h : NumRow k w base T v l) (o : Obj) : NumRow k (w.alloc o) base T v l :=
 h.of_block (fun g hg => heap_alloc_old w o (h.lt g hg).2)

theorem NumRow.drew (h : NumRow k w base T v l) : NumRow k w.drew base T v l := h

theorem NumRow.mono {base' : Nat} (h : NumRow k w base T v l) (hb : base' ≤ base) : NumRow k w base' T v l := by
 rcases h with h | ⟨g, cap, L, h0, h1, h2⟩
 · exact .inl h
 · exact .inr ⟨g, cap, L, h0, by omega, h2⟩

theorem NumRow.cell {g n cap j : Nat} (h : NumRow k w base T (.slice (some ⟨g, 0, none⟩) n cap) l) (hj : j < l.length) : w.cell? ⟨g, j, none⟩ = some (wd k (l.getD j 0)) := by
 rcases h with ⟨h, _⟩ | ⟨g', cap', L, h0, h1, h2, h3, h4, h5, h6, h7⟩
 · cases h
 · simp only [Value.slice.injEq, Option.some.injEq, Addr.mk.injEq, and_true] at h0
   obtain ⟨rfl, rfl, rfl⟩ := h0
   have := Blk.cell (k := k) ⟨T, h2⟩ (o := j) (by omega)
   rw [this]
   congr 2
   rw [show l.getD j 0 = (L.take l.length).getD j 0 by rw [h6]]
   simp [List.getD, hj]

theorem NumRow.frz {g n cap : Nat} (h : NumRow k w base T (.slice (some ⟨g, 0, none⟩) n cap) l) (j : Nat) : w.frozen? ⟨g, j, none⟩ = false := by
 rcases h with ⟨h, _⟩ | ⟨g', cap', L, h0, h1, h2, h3⟩
 · cases h
 · simp only [Value.slice.injEq, Option.some.injEq, Addr.mk.injEq, and_true] at h0
   obtain ⟨rfl, rfl, rfl⟩ := h0
   exact frozen_of_row _ _ _ _ _ h2

theorem NumRow.someAt {a : Option Addr} {n cap : Nat} (h : NumRow k w base T (.slice a n cap) l) (hl : 0 < l.length) : ∃ g, a = some ⟨g, 0, none⟩ ∧ base ≤ g ∧ g < w.heap.size := by
 have hlt := h.lt
 rcases h with ⟨_, h⟩ | ⟨g', cap', L, h0, h1, h2, h3⟩
 · rw [h] at hl; simp at hl
 · simp only [Value.slice.injEq] at h0
   obtain ⟨rfl, rfl, rfl⟩ := h0
   exact ⟨g', rfl, h1, (hlt g' rfl).2⟩

theorem NumRow.len {a : Option Addr} {n cap : Nat} (h : NumRow k w base T (.slice a n cap) l) : n = l.length := by
 rcases h with ⟨h0, h⟩ | ⟨g', cap', L, h0, _⟩
 · rw [h]; simp only [Value.slice.injEq] at h0; exact h0.2.1
 · simp only [Value.slice.injEq] at h0; exact h0.2.1

theorem NumRow.capLe {a : Option Addr} {n cap : Nat} (h : NumRow k w base T (.slice a n cap) l) : n ≤ cap := by
 rcases h with ⟨h0, h⟩ | ⟨g', cap', L, h0, h1, h2, h3, _⟩
 · simp only [Value.slice.injEq] at h0; omega
 · simp only [Value.slice.injEq] at h0; omega

theorem NumRow.set {g n cap j : Nat} (h : NumRow k w base T (.slice (some ⟨g, 0, none⟩) n cap) l) (hj : j < l.length) (x : Nat) : NumRow k (w.setCell ⟨g, j, none⟩ (wd k x)) base T (.slice (some ⟨g, 0, none⟩) n cap) (l.set j x) := by
 rcases h with ⟨h, _⟩ | ⟨g', cap', L, h0, h1, h2, h3, h4, h5, h6, h7⟩
 · cases h
 · simp only [Value.slice.injEq, Option.some.injEq, Addr.mk.injEq, and_true] at h0
   obtain ⟨rfl, rfl, rfl⟩ := h0
   refine .inr ⟨g, cap, L.set j x, by simp, h1, ?_, by simpa using h3, h4, by simpa using h5, ?_, ?_⟩
   · have := rst (i := j) (v := wd k x) h2
     rw [this]; congr 2; simp [List.map_set]
   · rw [List.length_set, List.take_set, h6]
   · rw [List.length_set, List.drop_set_of_lt hj]; exact h7

theorem NumRow.front {g n cap m : Nat} (h : NumRow k w base T (.slice (some ⟨g, 0, none⟩) n cap) l) (hm : m + 1 = l.length) (h0 : l.getD m 0 = 0) : NumRow k w base T (.slice (some ⟨g, 0, none⟩) m cap) (l.take m) := by
 rcases h with ⟨h, _⟩ | ⟨g', cap', L, h0', h1, h2, h3, h4, h5, h6, h7⟩
 · cases h
 · simp only [Value.slice.injEq, Option.some.injEq, Addr.mk.injEq, and_true] at h0'
   obtain ⟨rfl, rfl, rfl⟩ := h0'
   have e : (l.take m).length = m := by simp; omega
   refine .inr ⟨g, cap, L, by rw [e], h1, h2, by rw [e]; omega, h4, h5, ?_, ?_⟩
   · rw [e, ← h6, List.take_take]; simp; omega
   · rw [e]
     intro x hx
     have hm' : m < L.length := by omega
     rw [List.drop_eq_getElem_cons hm'] at hx
     rcases List.mem_cons.1 hx with h | h
     · have : l.getD m 0 = L[m] := by
        rw [← h6, hm.symm]
        simp [List.getD, hm']
       rw [h, ← this]; exact h0
     · exact h7 x (by rw [← hm]; exact h)

end

section
variable {P : Program} (w : World)

theorem run_append_num (k : IntKind) (base : Nat) (t ty e : TypeId) (i : TypeInfo) (bytes : Nat) (ht : P.underlying t = some (.slice e)) (hi : P.info? e = some i) (hz : i.zero = some (.int k 0))
 (hsize : i.size = 1) (hby : i.bytes = bytes) (v : Value) (l : List Nat) (hown : NumRow k w base e v l)
 (a : Addr) (m c : Nat) (news : List Nat) (hl : news.length = m) (hm : 0 < m) (hnews : ∀ j x, news[j]? = some x → w.cell? (a.add j) = some (wd k x))
 (h63 : l.length + m ≤ maxLen) (hbytes : (l.length + m) * bytes ≤ 140737488355328) (hbase : base ≤ w.heap.size) :
 ∃ v' w', (Builtin.append_ #[t, t] ty #[v, .slice (some a) m c]).run P w = .ok v' w' ∧ NumRow k w' base e v' (l ++ news) ∧ w.grownBy w' v.ownBlock ∧ (∀ g, v'.ownBlock = some g → v.ownBlock = some g ∨ w.heap.size ≤ g) := by
 subst hby
 have hl' : (news.map (wd k)).length = m * i.size := by rw [hsize]; simpa using hl
 have hnews' : ∀ j u, (news.map (wd k))[j]? = some u → w.cell? (a.add j) = some u := by
  intro j u hj
  rw [List.getElem?_map] at hj
  cases hx : news[j]? with
  | none => rw [hx] at hj; cases hj
  | some x => rw [hx] at hj; cases hj; exact hnews j x hx
 have h1 : ∀ u ∈ news.map (wd k), u.oneCell' = true := by
  intro u hu
  obtain ⟨x, _, rfl⟩ := List.mem_map.1 hu
  rfl
 have hzc : ∀ n, (Builtin.zeroCells (Value.int k 0).cells n).toList = (List.replicate n 0).map (wd k) := by
  intro n
  simp [Builtin.zeroCells, Value.cells]
  apply List.ext_getElem
  · simp
  · intro i h1 h2
    simp [Nat.mod_one]
 have grown : ∀ old, old < l.length + m → NumRow k (w.drew.alloc (.cells ((l.map (wd k)).toArray ++ (news.map (wd k)).toArray ++ Builtin.zeroCells (Value.int k 0).cells (grownCap w (l.length + m) old e - (l.length + m))) e)) base e
  (.slice (some ⟨w.heap.size, 0, none⟩) (l.length + m) (grownCap w (l.length + m) old e)) (l ++ news) := by
  intro old ho
  have hge := grownCap_ge w (l.length + m) old e
  have hcm := grownCap_le_maxLen w (l.length + m) old e h63
  have hll : (l ++ news).length = l.length + m := by rw [List.length_append, hl]
  refine .inr ⟨w.heap.size, _, (l ++ news) ++ List.replicate (grownCap w (l.length + m) old e - (l.length + m)) 0, by rw [hll], hbase, ?_, by rw [hll]; exact hge, hcm, ?_, by rw [hll, ← hll, List.take_left], ?_⟩
  · refine (heap_alloc_new w.drew _).trans ?_
    congr 2
    apply Array.ext'
    simp only [Array.toList_append, hzc, List.map_append]
  · rw [List.length_append, hll, List.length_replicate]; omega
  · rw [List.drop_left]
    exact fun x hx => List.eq_of_mem_replicate hx
 have hgr : ∀ (o : Obj) (row : Option Nat), w.grownBy (w.drew.alloc o) row := fun o row => ⟨rfl, rfl, rfl, by simp, fun k hk _ => heap_alloc_old w.drew o hk⟩
 rcases hown with ⟨rfl, rfl⟩ | ⟨g, cap, L, rfl, hbg, hg, hnc, hcm, hcs, htake, hzero⟩
 · have hr := run_append_nil (P := P) w t ty e i (.int k 0) ht hi hz a m c _ hl' hnews' hm (by simp [maxLen] at h63; omega) (by have hb := hbytes; simp only [List.length_nil, Nat.zero_add] at hb; omega)
   have hg0 := grown 0 (by simp; omega)
   simp only [List.length_nil, Nat.zero_add, List.map_nil, List.nil_append, Array.empty_append] at hg0 ⊢
   exact ⟨_, _, hr, hg0, hgr _ _, fun g hg => .inr (by simp [Value.ownBlock] at hg; omega)⟩
 · by_cases hroom : l.length + m ≤ cap
   · have hfit : l.length * i.size + (news.map (wd k)).length ≤ (L.map (wd k)).toArray.size := by rw [hsize]; simp [hcs, hl]; omega
     have hr := run_append_room (P := P) w t ty e i ht hi g l.length cap _ hg a m c _ hl' hnews' h1 hroom hfit
     rw [hsize, Nat.mul_one] at hr
     refine ⟨_, _, hr, ?_, ⟨rfl, rfl, rfl, by simp, fun k _ hk => setRow_other w g k _ (fun e => hk (by simp [Value.ownBlock, e]))⟩, fun g hg => .inl hg⟩
     have hll : (l ++ news).length = l.length + m := by rw [List.length_append, hl]
     refine .inr ⟨g, cap, (l ++ news) ++ L.drop (l.length + m), by rw [hll], hbg, ?_, by rw [hll]; exact hroom, hcm, ?_, by rw [← hll, hll, ← hll, List.take_left], ?_⟩
     · rw [setRow_heap w g _ _ e _ hg]
       congr 2
       apply Array.ext'
       simp only [List.map_append, List.map_drop, List.length_map, hl]
       congr 2
       conv => rhs; rw [← htake]
       simp [List.map_take]
     · rw [List.length_append, hll, List.length_drop, hcs]; omega
     · rw [List.drop_left]
       intro x hx
       exact hzero x (by rw [show l.length + m = l.length + m from rfl, ← List.drop_drop] at hx; exact List.mem_of_mem_drop hx)
   · have holds : ∀ j u, (l.map (wd k))[j]? = some u → w.cell? ((⟨g, 0, none⟩ : Addr).add j) = some u :=
      (NumRow.owns (k := k) (w := w) (base := base) (T := e) (v := .slice (some ⟨g, 0, none⟩) l.length cap) (l := l) (.inr ⟨g, cap, L, rfl, hbg, hg, hnc, hcm, hcs, htake, hzero⟩)).cells (g := g) rfl
     have hr := run_append_grow (P := P) w t ty e i (.int k 0) ht hi hz ⟨g, 0, none⟩ l.length cap (l.map (wd k)) (by rw [hsize]; simp) holds a m c _ hl' hnews' (by omega) (by simp [maxLen] at h63; omega) (growslice_fits (by omega) hbytes)
     exact ⟨_, _, hr, grown cap (by omega), hgr _ _, fun g hg => .inr (by simp [Value.ownBlock] at hg; omega)⟩

theorem wp_append_num {o : Oper} {a : Act} {K : Act → World → Prop} {Q : Exit → Act → World → Prop} (s x : Operand) (t : TypeId)
 (ho : o.op = .call { callee := .builtin .append, args := #[s, x], argTypes := #[t, t] })
 (k : IntKind) (base : Nat) (e : TypeId) (i : TypeInfo) (bytes : Nat) (ht : P.underlying t = some (.slice e)) (hi : P.info? e = some i) (hz : i.zero = some (.int k 0))
 (hsize : i.size = 1) (hby : i.bytes = bytes) (v : Value) (l : List Nat) (hs : a.eval s = v) (hown : NumRow k w base e v l)
 (ad : Addr) (m c : Nat) (news : List Nat) (hx : a.eval x = .slice (some ad) m c) (hl : news.length = m) (hm : 0 < m) (hnews : ∀ j x, news[j]? = some x → w.cell? (ad.add j) = some (wd k x))
 (h63 : l.length + m ≤ maxLen) (hbytes : (l.length + m) * bytes ≤ 140737488355328) (hbase : base ≤ w.heap.size)
 (h : ∀ v' w', NumRow k w' base e v' (l ++ news) → w.grownBy w' v.ownBlock → (∀ g, v'.ownBlock = some g → v.ownBlock = some g ∨ w.heap.size ≤ g) → K (a.put o.dst v') w') : o.wp P a w K Q := by
 obtain ⟨v', w', hr, h2, h3, h4⟩ := run_append_num (P := P) w k base t o.type e i bytes ht hi hz hsize hby v l hown ad m c news hl hm hnews h63 hbytes hbase
 unfold Oper.wp execOp
 simp only [ho, resolve, invoke, builtin, Sem.run_bind, Sem.run_pure, Result.andThen_ok, List.map_toArray, List.map_cons, List.map_nil, hs, hx, hr]
 exact h v' w' h2 h3 h4

theorem wpList_append_num {ops : Array Oper} {rest : List Oper} {o : Oper} {a : Act} {Q : Exit → Act → World → Prop} (hgd : o.guard = none) (s x : Operand) (t : TypeId)
 (ho : o.op = .call { callee := .builtin .append, args := #[s, x], argTypes := #[t, t] })
 (k : IntKind) (base : Nat) (e : TypeId) (i : TypeInfo) (bytes : Nat) (ht : P.underlying t = some (.slice e)) (hi : P.info? e = some i) (hz : i.zero = some (.int k 0))
 (hsize : i.size = 1) (hby : i.bytes = bytes) (v : Value) (l : List Nat) (hs : a.eval s = v) (hown : NumRow k w base e v l)
 (ad : Addr) (m c : Nat) (news : List Nat) (hx : a.eval x = .slice (some ad) m c) (hl : news.length = m) (hm : 0 < m) (hnews : ∀ j x, news[j]? = some x → w.cell? (ad.add j) = some (wd k x))
 (h63 : l.length + m ≤ maxLen) (hbytes : (l.length + m) * bytes ≤ 140737488355328) (hbase : base ≤ w.heap.size)
 (h : ∀ v' w', NumRow k w' base e v' (l ++ news) → w.grownBy w' v.ownBlock → (∀ g, v'.ownBlock = some g → v.ownBlock = some g ∨ w.heap.size ≤ g) → wpList P ops Q rest (a.put o.dst v') w') : wpList P ops Q (o :: rest) a w :=
 wpList_plain hgd fun _ hK => wp_append_num w s x t ho k base e i bytes ht hi hz hsize hby v l hs hown ad m c news hx hl hm hnews h63 hbytes hbase fun v' w' h2 h3 h4 => hK _ _ (h v' w' h2 h3 h4)
end

theorem Fresh.num {w wr w1 : World} {k : IntKind} {B T : Nat} {v : Value} {l : List Nat} (h : Fresh w wr) (ho : NumRow k wr B T v l) (hB : w.heap.size ≤ B) (hg : wr.grownBy w1 v.ownBlock) : Fresh w w1 :=
 Fresh.owns h ho.owns hB hg

theorem NumRow.natAt {w : World} {base : Nat} {T : TypeId} {v : Value} {l : List Nat} (h : NumRow .u64 w base T v l) (hl : ∀ x ∈ l, x < 18446744073709551616) : NatAt w v l := by
 rcases h with ⟨rfl, rfl⟩ | ⟨g, cap, L, rfl, h1, h2, h3, h4, h5, h6, h7⟩
 · exact NatAt.nil w
 · have hb : ∀ x ∈ L, x < 18446744073709551616 := by
    intro x hx
    rw [← List.take_append_drop l.length L] at hx
    rcases List.mem_append.1 hx with h | h
    · rw [h6] at h; exact hl x h
    · rw [h7 x h]; omega
   have := NatAt.mk (g := g) (off := 0) (n := l.length) (cap := cap) (by unfold maxLen at h4; omega) ⟨T, h2⟩ h3 (by omega) hb
   have e : seg L 0 l.length = l := by unfold seg; simpa using h6
   rwa [e] at this

end Go.Proofs.YtllencgncinphaaGreatDoor
