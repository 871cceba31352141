/- big: nat.divLarge by up to 39 words. Made from XDg by gen_dgb.py. -/
import Derived.Test.YtllencgncinphaaGreatDoorKE5
import Derived.Test.YtllencgncinphaaGreatDoorKE25
import Derived.Test.YtllencgncinphaaGreatDoorKE27
namespace Go.Proofs.YtllencgncinphaaGreatDoor
open Go.RowKit
open Go.Lib (hid)
set_option maxRecDepth 20000
set_option maxHeartbeats 4000000

def DLRet (w : World) (b : Nat) (zv z2v : Value) (X y : Nat) (e : Ending) (w' : World) : Prop :=
 ∃ qv lq rv lr, e = .returned (.tuple #[qv, rv]) ∧ NatAt w' qv lq ∧ Norm lq ∧ val lq = X / y ∧ NatAt w' rv lr ∧ Norm lr ∧ val lr = X % y ∧
  Keep (fun k => k = b ∨ zv.ownBlock = some k ∨ z2v.ownBlock = some k) w w' ∧ (∀ k, qv.ownBlock = some k → zv.ownBlock = some k ∨ w.heap.size ≤ k) ∧
  (∀ k, rv.ownBlock = some k → z2v.ownBlock = some k ∨ w.heap.size ≤ k) ∧ (∀ k, qv.ownBlock = some k → rv.ownBlock ≠ some k) ∧ StkE w.heap.size w' b

theorem divLarge_gen (zv z2v uv vv : Value) (zl z2l ul vl : List Nat) (b : Nat) (w : World) (hG : Glob w) (hst : Stk0 w b) (hfb : w.frozen? ⟨b, 0, none⟩ = false) (hbN : NG ≤ b) (hbz : ∀ k, zv.ownBlock = some k → k ≠ b) (hbz2 : ∀ k, z2v.ownBlock = some k → k ≠ b) (hbu : ∀ k, uv.ownBlock = some k → k ≠ b) (hbv : ∀ k, vv.ownBlock = some k → k ≠ b) (hn : 2 ≤ vl.length) (hn3 : vl.length ≤ 39) (hle : vl.length ≤ ul.length) (hul : ul.length ≤ 1000)
 (hz : NatAt w zv zl) (hz2 : NatAt w z2v z2l) (hu : NatAt w uv ul) (hv : NatAt w vv vl) (hnv : Norm vl)
 (ha : ∀ k, zv.ownBlock = some k → z2v.ownBlock ≠ some k) (hau : ∀ k, z2v.ownBlock = some k → uv.ownBlock ≠ some k) (hav : ∀ k, z2v.ownBlock = some k → vv.ownBlock ≠ some k) :
 Calls Tryz.prog 169 #[zv, .pointer (some ⟨b, 0, none⟩), z2v, uv, vv] w (DLRet w b zv z2v (val ul) (val vl)) := by
 have hub := hu.bnd
 have hvb := hv.bnd
 obtain ⟨gx, ox, cx, M, rfl, bx, hx1, hx2, hx3, hx4⟩ := hv.open_pos (by omega)
 obtain ⟨gy, oy, cy, K, rfl, by_, hy1, hy2, hy3, hy4⟩ := hu.open_pos (by omega)
 have hgx := bx.lt
 have hgxb : gx ≠ b := hbv gx rfl
 have hgyb : gy ≠ b := hbu gy rfl
 have hblt : b < w.heap.size := World.block_lt_of_cell? _ _ hst
 have hgy := by_.lt
 have hax : z2v.ownBlock ≠ some gx := fun h => hav gx h rfl
 have hay : z2v.ownBlock ≠ some gy := fun h => hau gy h rfl
 generalize hvl : vl.length = n at *
 generalize hulN : ul.length = N at *
 obtain ⟨m, hm⟩ : ∃ m, m = N - n := ⟨_, rfl⟩
 have iNm : (N : Int) - (n : Int) = (m : Int) := by omega
 have wm : IntKind.i64.wrap (m : Int) = (m : Int) := by rw [IntKind.wrap_i64]; omega
 obtain ⟨M1, hM1⟩ : ∃ a, a = m + 1 := ⟨_, rfl⟩
 have iM1 : (m : Int) + 1 = (M1 : Int) := by omega
 have wM1 : IntKind.i64.wrap (M1 : Int) = (M1 : Int) := by rw [IntKind.wrap_i64]; omega
 obtain ⟨N1, hN1⟩ : ∃ a, a = N + 1 := ⟨_, rfl⟩
 have iN1 : (N : Int) + 1 = (N1 : Int) := by omega
 have wN1 : IntKind.i64.wrap (N1 : Int) = (N1 : Int) := by rw [IntKind.wrap_i64]; omega
 obtain ⟨t, ht⟩ : ∃ a, a = n - 1 := ⟨_, rfl⟩
 have it : (n : Int) - 1 = (t : Int) := by omega
 have wt : IntKind.i64.wrap (t : Int) = (t : Int) := by rw [IntKind.wrap_i64]; omega
 have lt_ : (t : Int) < (n : Int) := by omega
 have hgv : ∀ j, j < n → vl.getD j 0 = M.getD (ox + j) 0 := fun j hj => by rw [hx3]; exact seg_getD hj
 have hct := bx.cell (o := ox + t) (by omega)
 rw [← hgv t (by omega)] at hct
 obtain ⟨y, hy⟩ : ∃ y, y = vl.getD t 0 := ⟨_, rfl⟩
 rw [← hy] at hct
 have hyb : y < 18446744073709551616 := by rw [hy]; exact getD_lt hvb pos64 _
 have hy0 : 0 < y := by
  have := hnv t (by omega)
  rw [← hy] at this
  omega
 have hlz := fun W => nlz_any y W hyb hy0
 have hsave := save_nil b w hst
 have H_hG := hid hG; have H_hst := hid hst; have H_hfb := hid hfb; have H_hbN := hid hbN; have H_hbz := hid hbz; have H_hbz2 := hid hbz2; have H_hgxb := hid hgxb; have H_hgyb := hid hgyb; have H_hblt := hid hblt; have H_hz := hid hz; have H_hz2 := hid hz2; have H_hu := hid hu; have H_hv := hid hv; have H_hnv := hid hnv; have H_ha := hid ha; have H_hub := hid hub; have H_hvb := hid hvb; have H_bx := hid bx; have H_by_ := hid by_; have H_hx1 := hid hx1; have H_hx2 := hid hx2; have H_hx3 := hid hx3; have H_hx4 := hid hx4; have H_hy1 := hid hy1; have H_hy2 := hid hy2; have H_hy3 := hid hy3; have H_hy4 := hid hy4; have H_hvl := hid hvl; have H_hulN := hid hulN; have H_hm := hid hm; have H_hM1 := hid hM1; have H_hN1 := hid hN1; have H_ht := hid ht; have H_hgv := hid hgv; have H_hy := hid hy; have H_hlz := hid hlz; have H_hsave := hid hsave; have H_hyb := hid hyb; have H_hy0 := hid hy0; have H_hax := hid hax; have H_hay := hid hay; clear hG hst hfb hbN hbz hbz2 hgxb hgyb hblt hz hz2 hu hv hnv ha hub hvb bx by_ hx1 hx2 hx3 hx4 hy1 hy2 hy3 hy4 hvl hulN hm hM1 hN1 ht hgv hy hlz hsave hyb hy0 hax hay
 go_enter_defers Tryz.func169, Tryz.ntmps169
 go_wp2_with (fail)
 refine H_hsave.out.mono ?_
 rintro e w' ⟨rfl, rfl⟩
 go_wp2_with (fail)
 refine (H_hlz.out _).mono ?_
 rintro e w' ⟨s, rfl, hls, hww⟩
 rw [hww]
 clear hww
 have hs64 := hls.1
 have hnat := stk_first b n w H_hst.out H_hfb.out (by omega) (by omega)
 clear hct
 have H_hls := hid hls; have H_hnat := hid hnat; clear hls hnat
 go_wp2_with (fail)
 refine H_hnat.out.mono ?_
 rintro e w2 ⟨gt, G, Lt, rfl, hG1, hG2, hb2⟩
 obtain ⟨bt2, hLt, hLtb, hgt, f2, hV2⟩ := hb2.out
 have hz22 := H_hz2.out.keep f2 (fun k hk h => H_hbz2.out k hk h)
 have hmk := make_any z2v z2l N1 w2 (by have := H_hN1.out; omega) (by have := H_hN1.out; omega) hz22
 clear hb2
 have H_bt2 := hid bt2; have H_hLt := hid hLt; have H_hLtb := hid hLtb; have H_hgt := hid hgt; have H_f2 := hid f2; have H_hV2 := hid hV2; have H_hz22 := hid hz22; have H_hmk := hid hmk; clear bt2 hLt hLtb hgt f2 hV2 hz22 hmk
 go_wp2_with (fail)
 refine H_hmk.out.mono ?_
 intro e w3 hmd
 obtain ⟨gu, ou, cu, Lu, rfl, hbu, hcu, hLu, hLub, hf3, hat, hcuM⟩ := hmd.split
 clear hmd
 have f3 : Keep (fun k => k = b) w w3 := H_f2.out.trans hf3.out (fun _ _ h => h) (fun _ _ h => h.elim)
 have hV3 := H_hV2.out.fresh hf3.out
 have bt3 := H_bt2.out.keep hf3.out (fun h => h)
 have bx3 := H_bx.out.keep f3 (fun h => H_hgxb.out h)
 have by3 := H_by_.out.keep f3 (fun h => H_hgyb.out h)
 have hgut : gu ≠ gt := by
  have h1 := H_bt2.out.lt
  have h2 := H_hgt.out
  rcases hat.out with ⟨n0, c0, h⟩ | h
  · have := H_hz2.out.lt (show z2v.ownBlock = some gu by rw [h]; rfl)
    omega
  · omega
 have hgux : gx ≠ gu := by
  rcases hat.out with ⟨n0, c0, h⟩ | h
  · exact fun e => H_hax.out (by rw [h, e]; rfl)
  · have := H_f2.out.size; omega
 have hguy : gy ≠ gu := by
  rcases hat.out with ⟨n0, c0, h⟩ | h
  · exact fun e => H_hay.out (by rw [h, e]; rfl)
  · have := H_f2.out.size; omega
 have hgtx : gx ≠ gt := by have := H_hgt.out; omega
 have hgty : gy ≠ gt := by have := H_hgt.out; omega
 have lN : (N : Int) < (N1 : Int) := by omega
 have lNcu : (N : Int) ≤ (cu : Int) := by omega
 have hgub : gu ≠ b := by
  rcases hat.out with ⟨n0, c0, h⟩ | h
  · exact H_hbz2.out gu (by rw [h]; rfl)
  · have := H_f2.out.size; have := H_hblt.out; omega
 have hltp : 0 < Lt.length := by have := H_hLt.out; omega
 have hlup : 0 < Lu.length := by have := hLu.out; have := H_hN1.out; omega
 have H_f3 := hid f3; have H_bt3 := hid bt3; have H_bx3 := hid bx3; have H_by3 := hid by3; have H_hV3 := hid hV3; have H_hgub := hid hgub; have H_hltp := hid hltp; have H_hlup := hid hlup; clear f3 bt3 bx3 by3 hV3 hgub hltp hlup
 go_upto_if 40 with (fail)
 go_cut [] from 39 (fun wx => ∃ vs us : List Nat, Hid (vs.length = n ∧ (∀ a ∈ vs, a < 18446744073709551616) ∧ val vs = val vl * 2 ^ s ∧ 9223372036854775808 ≤ vs.getD (n - 1) 0) ∧
  Hid (us.length = N1 ∧ (∀ a ∈ us, a < 18446744073709551616) ∧ val us = val ul * 2 ^ s) ∧ Hid (Blk .u64 wx gt (spl Lt 0 vs)) ∧ Hid (Blk .u64 wx gu (spl Lu ou us)) ∧ Hid (Keep (fun k => k = gt ∨ k = gu) w3 wx))
 case first =>
  rcases Nat.eq_zero_or_pos s with hs0 | hs0
  · have t0 : ((s : Int) == 0) = true := by subst hs0; rfl
    have hfv : vl.length = n ∧ (∀ a ∈ vl, a < 18446744073709551616) ∧ val vl = val vl * 2 ^ s ∧ 9223372036854775808 ≤ vl.getD (n - 1) 0 := by
     refine ⟨H_hvl.out, H_hvb.out, by subst hs0; simp, ?_⟩
     have := H_hls.out.2.1
     rw [hs0, H_hy.out, H_ht.out] at this
     omega
    have hfu : (ul ++ [0]).length = N1 ∧ (∀ a ∈ ul ++ [0], a < 18446744073709551616) ∧ val (ul ++ [0]) = val ul * 2 ^ s := by
     refine ⟨by have := H_hulN.out; have := H_hN1.out; simp; omega, ?_, by rw [val_snoc, hs0]; simp⟩
     intro a ha
     rw [List.mem_append, List.mem_singleton] at ha
     rcases ha with ha | rfl
     · exact H_hub.out a ha
     · omega
    have hsx : seg M ox n = vl := H_hx3.out.symm
    have hsy : seg K oy N = ul := H_hy3.out.symm
    have H_hfv := hid hfv; have H_hfu := hid hfu; have H_hsx := hid hsx; have H_hsy := hid hsy; have H_hs0 := hid hs0; clear hfv hfu hsx hsy hs0
    go_wp2_with (first
     | (refine wpList_copy_puts (o := ⟨some 43, _, _, _, _, _⟩) rfl (.tmp 41) (.tmp 42) 108 108 rfl 123 Tryz.underlying108 (by kernel_rfl) _ _ _ _ _ _ (by rfl) (by rfl) gt 0 Lt H_bt3.out gx ox M H_bx3.out n (by simp) (fun _ => ⟨rfl, rfl⟩) (by have := H_hLt.out; omega) (by have := H_hx1.out; have := H_hx2.out; omega) ?_; intro w4 hp4; have bu4 := hid (hp4.other hgut hbu.out); have by4 := hid (hp4.other hgty H_by3.out); replace hp4 := hid hp4)
     | (refine wpList_copy_puts (o := ⟨some 49, _, _, _, _, _⟩) rfl (.tmp 47) (.tmp 48) 108 108 rfl 123 Tryz.underlying108 (by kernel_rfl) _ _ _ _ _ _ (by rfl) (by rfl) gu ou Lu bu4.out gy oy K by4.out N (by simp) (fun _ => ⟨rfl, rfl⟩) (by have := hLu.out; omega) (by have := H_hy1.out; have := H_hy2.out; omega) ?_; intro w5 hp5
        rw [H_hsy.out] at hp5
        have hcc := hp5.blk.cell (o := ou + N) (by have := hLu.out; have := H_hulN.out; rw [sgl (by omega)]; omega)
        have hcf := hp5.blk.frozen (ou + N)
        have hp6 := hp5.set (ou + N) 0
        rw [spl_set (by rw [H_hulN.out]) (by have := hLu.out; omega)] at hp6
        generalize (spl Lu ou ul).getD (ou + N) 0 = z9 at *
        have hp6 := hid hp6))
    have hp4 := hp4.out
    rw [H_hsx.out] at hp4
    have hp4 := hid hp4
    go_meet
    case rel =>
     refine ⟨vl, ul ++ [0], hid H_hfv.out, hid H_hfu.out, hid (hp4.out.blk.keep hp6.out.keep (fun h => hgut h.symm)), hid hp6.out.blk, hid ?_⟩
     exact hp4.out.keep.trans hp6.out.keep (fun _ _ h => .inl h) (fun _ _ h => .inr h)
  · have t0 : ((s : Int) == 0) = false := by rw [beq_eq_false_iff_ne]; omega
    have hsN : ¬ s = 0 := by omega
    have hl1 := lshVU_any gt 0 G gx ox cx n s Lt M w3 (by omega) (by omega) hs0 hs64 H_bt3.out H_bx3.out (by have := H_hLt.out; omega) (by have := H_hx1.out; have := H_hx2.out; omega) H_hx4.out (.inl hgtx)
    rw [show seg M ox n = vl from H_hx3.out.symm] at hl1
    have hl2 : ∀ W, Keep (fun k => k = gt) w3 W → Calls Tryz.prog 164 #[.slice (some ⟨gu, ou, none⟩) N cu, .slice (some ⟨gy, oy, none⟩) N cy, .int .u64 s] W
     (fun e w' => e = .returned (.int .u64 ((lastW ul 0 / 2 ^ (64 - s) : Nat) : Int)) ∧ Hid (Keep (fun k => k = gu) W w' ∧ Blk .u64 w' gu (spl Lu ou (shlL ul 0 s)))) := by
     intro W hW
     have := lshVU_any gu ou cu gy oy cy N s Lu K W (by omega) (by omega) hs0 hs64 (hbu.out.keep hW hgut) (H_by3.out.keep hW hgty) (by have := hLu.out; omega) (by have := H_hy1.out; have := H_hy2.out; omega) H_hy4.out (.inl hguy)
     rw [show seg K oy N = ul from H_hy3.out.symm] at this
     exact this
    have hfv : (shlL vl 0 s).length = n ∧ (∀ a ∈ shlL vl 0 s, a < 18446744073709551616) ∧ val (shlL vl 0 s) = val vl * 2 ^ s ∧ 9223372036854775808 ≤ (shlL vl 0 s).getD (n - 1) 0 := by
     have hv0 := shlL_val (s := s) (by omega) vl 0
     have hlw : lastW vl 0 = y := by rw [lastW_getD vl 0 (by rw [H_hvl.out]; omega), H_hvl.out, H_hy.out, H_ht.out]
     have e := two_split (s := s) (by omega)
     have hq : y / 2 ^ (64 - s) = 0 := by
      apply Nat.div_eq_of_lt
      have h1 := H_hls.out.2.2
      rw [← e] at h1
      exact Nat.lt_of_mul_lt_mul_right h1
     rw [hlw, hq, Nat.mul_zero, Nat.add_zero, Nat.zero_div, Nat.add_zero] at hv0
     refine ⟨by rw [shlL_length, H_hvl.out], shlL_lt (by omega) vl 0 H_hvb.out (by omega), hv0, ?_⟩
     rw [shlL_getD vl 0 (n - 1) (by rw [H_hvl.out]; omega), ← H_ht.out, ← H_hy.out]
     have h1 := H_hls.out.2.1
     have h2 := H_hls.out.2.2
     rw [Nat.mod_eq_of_lt h2]
     exact Nat.le_trans h1 (Nat.le_add_right _ _)
    have hcb : lastW ul 0 / 2 ^ (64 - s) < 18446744073709551616 := by
     refine Nat.lt_of_le_of_lt (Nat.div_le_self _ _) ?_
     rw [lastW_getD ul 0 (by rw [H_hulN.out]; omega)]
     exact getD_lt H_hub.out pos64 _
    have hfu : (shlL ul 0 s ++ [lastW ul 0 / 2 ^ (64 - s)]).length = N1 ∧ (∀ a ∈ shlL ul 0 s ++ [lastW ul 0 / 2 ^ (64 - s)], a < 18446744073709551616) ∧ val (shlL ul 0 s ++ [lastW ul 0 / 2 ^ (64 - s)]) = val ul * 2 ^ s := by
     refine ⟨by have := H_hulN.out; have := H_hN1.out; simp [shlL_length]; omega, ?_, ?_⟩
     · intro a ha
       rw [List.mem_append, List.mem_singleton] at ha
       rcases ha with ha | rfl
       · exact shlL_lt (by omega) ul 0 H_hub.out (by omega) a ha
       · exact hcb
     · have := shlL_val (s := s) (by omega) ul 0
       rw [Nat.zero_div, Nat.add_zero] at this
       rw [val_snoc, shlL_length]
       exact this
    have hsl := shlL_length ul 0 s
    rw [H_hulN.out] at hsl
    generalize shlL vl 0 s = vs at *
    generalize shlL ul 0 s = us0 at *
    generalize lastW ul 0 / 2 ^ (64 - s) = cc at *
    obtain ⟨rv, hrv⟩ : ∃ r, r = lastW vl 0 / 2 ^ (64 - s) := ⟨_, rfl⟩
    rw [← hrv] at hl1
    clear hrv
    have H_hl1 := hid hl1; have H_hl2 := hid hl2; have H_hfv := hid hfv; have H_hfu := hid hfu; have H_hsl := hid hsl; have H_hcb := hid hcb; clear hl1 hl2 hfv hfu hsl hcb
    go_wp2_with (fail)
    refine H_hl1.out.mono ?_
    rintro e w4 ⟨rfl, hp4⟩
    obtain ⟨k4, b4⟩ := hp4.out
    clear hp4
    have H_k4 := hid k4; have H_b4 := hid b4; clear k4 b4
    go_wp2_with (fail)
    refine (H_hl2.out _ H_k4.out).mono ?_
    rintro e w5 ⟨rfl, hp5⟩
    obtain ⟨k5, b5⟩ := hp5.out
    have hlen5 : (spl Lu ou us0).length = Lu.length := sgl (by have := hLu.out; have := H_hsl.out; omega)
    have hcc := b5.cell (o := ou + N) (by have := hLu.out; rw [hlen5]; omega)
    have hcf := b5.frozen (ou + N)
    have hp6 := (Puts.refl b5).set (ou + N) cc
    rw [spl_set (by rw [H_hsl.out]) (by have := hLu.out; omega)] at hp6
    generalize (spl Lu ou us0).getD (ou + N) 0 = z9 at *
    clear hp5
    have H_k5 := hid k5; have H_b5 := hid b5; have H_hp6 := hid hp6; have H_hlen5 := hid hlen5; clear k5 b5 hp6 hlen5
    go_wp2_with (fail)
    go_meet
    case rel =>
     refine ⟨vs, us0 ++ [cc], hid H_hfv.out, hid H_hfu.out, hid ((H_b4.out.keep H_k5.out (fun h => hgut h.symm)).keep H_hp6.out.keep (fun h => hgut h.symm)), hid H_hp6.out.blk, hid ?_⟩
     exact (H_k4.out.trans H_k5.out (U := fun k => k = gt ∨ k = gu) (fun _ _ h => .inl h) (fun _ _ h => .inr h)).trans H_hp6.out.keep (fun _ _ h => h) (fun _ _ h => .inr h)
 case rest =>
  obtain ⟨vs, us, hvs, hus, hbt, hbu4, hk4⟩ := hcut
  have hNn : N1 = M1 + n := by have := H_hm.out; have := H_hM1.out; have := H_hN1.out; omega
  have hzc : NatAt wc zv zl := (H_hz.out.keep H_f3.out (fun k hk h => H_hbz.out k hk h)).keep hk4.out (fun k hk h => by
   rcases h with rfl | rfl
   · have := H_hz.out.lt hk; have := H_hgt.out; omega
   · rcases hat.out with ⟨n0, c0, h⟩ | h
     · exact H_ha.out _ hk (by rw [h]; rfl)
     · have := H_hz.out.lt hk; have := H_f2.out.size; omega)
  have huc : NatAt wc (.slice (some ⟨gu, ou, none⟩) N1 cu) us := by
   have := NatAt.spl hcuM hbu4.out (cap := cu) (by rw [hus.out.1]; exact hcu) (by have := hLu.out; omega) hLub.out hus.out.2.1
   rw [hus.out.1] at this; exact this
  have hapart : Apart zv (.slice (some ⟨gu, ou, none⟩) N1 cu) := by
   intro g hg h
   simp only [Value.ownBlock, Option.some.injEq] at h
   subst h
   rcases hat.out with ⟨n0, c0, h⟩ | h
   · exact H_ha.out _ hg (by rw [h]; rfl)
   · have := H_hz.out.lt hg; have := H_f2.out.size; omega
  have hal := alias_apart zv _ zl us wc hzc huc hapart
  have hszc : w.heap.size < wc.heap.size := by have h1 := H_bt2.out.lt; have h2 := hf3.out.size; have h3 := hk4.out.size; have := H_hgt.out; omega
  have H_hzc := hid hzc; have H_huc := hid huc; have H_hapart := hid hapart; have H_hal := hid hal; have H_hNn := hid hNn; have H_hszc := hid hszc; clear hzc huc hapart hal hNn hszc
  go_wp2_with (fail)
  refine H_hal.out.mono ?_
  rintro e w5 ⟨rfl, nd, rfl⟩
  have hmq := make_any zv zl M1 (wc.drewN nd) (by have := H_hM1.out; omega) (by have := H_hM1.out; have := H_hm.out; omega) (H_hzc.out.drewN nd)
  have H_hmq := hid hmq; clear hmq
  go_wp2_with (fail)
  refine H_hmq.out.mono ?_
  intro e w6 hmd
  obtain ⟨gq, oq, cq, Lq, rfl, hbq, hcq, hLq, hLqb, hf6, hatq, hcqM⟩ := hmd.split
  clear hmd
  have f6 : Fresh wc w6 := hf6.out.of_drewN
  have hGc : w6.cell? ⟨2, 0, none⟩ = some (.int .i64 40) := by
   have hg0 := H_hG.out
   have hglt : 2 < w.heap.size := Nat.lt_of_lt_of_le (by unfold NG; decide) hg0.size
   have hgb : ¬ 2 = b := by have := H_hbN.out; unfold NG at *; omega
   have h1 : w3.cell? ⟨2, 0, none⟩ = some (.int .i64 40) := (H_f3.out.cell (p := ⟨2, 0, none⟩) hglt hgb).trans hg0.drec
   have k36 : Keep (fun k => k = gt ∨ k = gu) w3 w6 := hk4.out.trans f6 (fun _ _ h => h) (fun _ _ h => h.elim)
   have hne : ¬ (2 = gt ∨ 2 = gu) := by
    rintro (h | h)
    · have := H_hgt.out; omega
    · have h2 := hbu.out.cell (o := 0) (by have := hLu.out; omega)
      rw [← h, h1] at h2
      simp at h2
   exact (k36.cell (p := ⟨2, 0, none⟩) (Nat.lt_of_lt_of_le hglt H_f3.out.size) hne).trans h1
  have hgqu : gq ≠ gu := by
   rcases hatq.out with ⟨n0, c0, h⟩ | h
   · exact fun e => H_hapart.out gq (by rw [h]; rfl) (by rw [e]; rfl)
   · have h1 := hbu4.out.lt
     have : (wc.drewN nd).heap.size = wc.heap.size := rfl
     omega
  have hgqt : gq ≠ gt := by
   rcases hatq.out with ⟨n0, c0, h⟩ | h
   · have := H_hz.out.lt (show zv.ownBlock = some gq by rw [h]; rfl); have := H_hgt.out; omega
   · have h1 := hbt.out.lt
     have : (wc.drewN nd).heap.size = wc.heap.size := rfl
     omega
  have hltv : (spl Lt 0 vs).length = Lt.length := sgl (by have := hvs.out.1; have := H_hLt.out; omega)
  have hVc := H_hV3.out.put H_bt3.out H_hltp.out hbu.out H_hlup.out hk4.out hbt.out hltv (fun a ha => by
   rcases spl_mem ha with h | h
   · exact H_hLtb.out a h
   · exact hvs.out.2.1 a h)
  have hV6 := hVc.fresh f6
  have hbt6 := hbt.out.keep f6 (fun h => h)
  have hbu6 := hbu4.out.keep f6 (fun h => h)
  have hVt : VAt w6 gt 0 vs := ⟨_, hbt6, by rw [sgl (by have := hvs.out.1; have := H_hLt.out; omega)]; have := hvs.out.1; have := H_hLt.out; omega, seg_spl (by have := hvs.out.1; have := H_hLt.out; omega), fun a ha => by
   rcases spl_mem ha with h | h
   · exact H_hLtb.out a h
   · exact hvs.out.2.1 a h⟩
  have hlus : (spl Lu ou us).length = Lu.length := sgl (by have := hLu.out; have := hus.out.1; omega)
  obtain ⟨T, sv, t1, t2, t3, t4, t5⟩ := stk_second w.heap.size b gt gq gu n (spl Lt 0 vs) Lq (spl Lu ou us) vs w6 hV6 (by have := H_hszc.out; have := f6.size; omega) hbt6 (by rw [hltv]; exact H_hltp.out) H_hgt.out hVt hvs.out.1 (by omega) (by omega) hbq.out (by have := hLq.out; have := H_hM1.out; omega) hbu6 (by rw [hlus]; exact H_hlup.out) hgqt hgut.symm.symm
  have hdiv := divBasic_gen gq oq cq gu ou cu gt 0 G n M1 b sv Lq (spl Lu ou us) us vs T (fun W => StkE w.heap.size W b) w6 (by omega) (by have := H_hNn.out; have := H_hN1.out; omega) (by have := H_hNn.out; omega) hbq.out hbu6 hVt (by have := hLq.out; omega) (by have := hLu.out; have := hus.out.1; have := H_hNn.out; rw [sgl (by omega)]; omega)
   (by rw [← H_hNn.out, ← hus.out.1]; exact seg_spl (by have := hLu.out; have := hus.out.1; omega)) hvs.out.1 (fun a ha => by
    rcases spl_mem ha with h | h
    · exact hLub.out a h
    · exact hus.out.2.1 a h) hvs.out.2.1 hgqu hgqt hgut hvs.out.2.2.2 (dl_small (by have := H_hulN.out; have := H_hN1.out; have := H_hNn.out; omega) (by rw [hus.out.1]; exact H_hNn.out) H_hub.out hus.out.2.2 hvs.out.2.2.1 H_hvl.out (by omega) H_hnv.out)
   t1 t2 t4 t5
  rw [← H_hNn.out] at hdiv
  have t40 : decide ((n : Int) < 40) = true := by simp; omega
  clear hbt6
  have H_f6 := hid f6; have H_hbu6 := hid hbu6; have H_hVt := hid hVt; have H_hdiv := hid hdiv; have H_t3 := hid t3; have H_hlus := hid hlus; clear f6 hbu6 hVt hdiv t3 hlus
  go_wp2_with (fail)
  refine H_hdiv.out.mono ?_
  rintro e w7 ⟨⟨rfl, Q, R, hQl, hRl, hQb, hRb, hqr, hRv, hbq7, hbu7, hk7⟩, hE7⟩
  have hqlen : (spl Lq oq Q).length = Lq.length := sgl (by have := hLq.out; omega)
  have hru : spl (spl Lu ou us) ou (R ++ List.replicate M1 0) = spl Lu ou (R ++ List.replicate M1 0) :=
   spl_over (n := N1) (by have := hLu.out; have := hus.out.1; omega) hus.out.1 (by have := H_hNn.out; simp; omega)
  rw [hru] at hbu7
  obtain ⟨eQ, eR⟩ := dl_end (t := 2 ^ s) (Nat.pow_pos (by omega)) hqr hRv hus.out.2.2 hvs.out.2.2.1
  have hqa : NatAt w7 (.slice (some ⟨gq, oq, none⟩) M1 cq) Q := by
   have := NatAt.spl hcqM hbq7 (cap := cq) (by omega) hLq.out hLqb.out hQb
   rw [hQl] at this; exact this
  have hno := norm_any _ _ _ (by have := H_hM1.out; have := H_hm.out; omega) hqa
  clear hru hGc
  have H_hQl := hid hQl; have H_hRl := hid hRl; have H_hQb := hid hQb; have H_hRb := hid hRb; have H_hqr := hid hqr; have H_hRv := hid hRv; have H_hbq7 := hid hbq7; have H_hbu7 := hid hbu7; have H_hk7 := hid hk7; have H_hE7 := hid hE7; have H_hqlen := hid hqlen; have H_eQ := hid eQ; have H_eR := hid eR; have H_hqa := hid hqa; have H_hno := hid hno; clear hQl hRl hQb hRb hqr hRv hbq7 hbu7 hk7 hE7 hqlen eQ eR hqa hno
  go_wp2_with (fail)
  refine H_hno.out.mono ?_
  rintro e w8 ⟨qv, lq, rfl, hq8, hqn, hqv, hqo, rfl⟩
  have H_hq8 := hid hq8; have H_hqn := hid hqn; have H_hqv := hid hqv; have H_hqo := hid hqo; clear hq8 hqn hqv hqo
  go_upto_if 92 with (fail)
  go_cut [] from 39 (fun wx => ∃ rl : List Nat, Hid (rl.length = N1 ∧ (∀ a ∈ rl, a < 18446744073709551616) ∧ val rl = val ul % val vl) ∧ Hid (Blk .u64 wx gu (spl Lu ou rl)) ∧ Hid (Keep (fun k => k = gu) w7 wx))
  case first =>
   have hRZ : (R ++ List.replicate M1 0).length = N1 := by have := H_hNn.out; have := H_hRl.out; simp; omega
   have hRZb : ∀ a ∈ R ++ List.replicate M1 0, a < 18446744073709551616 := by
    intro a ha
    rcases List.mem_append.1 ha with h | h
    · exact H_hRb.out a h
    · exact rep_lt (by omega) a h
   have hRZv : val (R ++ List.replicate M1 0) = val R := by rw [val_append, val_rep]; simp
   rcases Nat.eq_zero_or_pos s with hs0 | hs0
   · have t0 : ((s : Int) != 0) = false := by subst hs0; rfl
     have hv0 : val (R ++ List.replicate M1 0) = val ul % val vl := by rw [hRZv, H_eR.out, hs0]; simp
     have H_hRZ := hid hRZ; have H_hRZb := hid hRZb; have H_hRZv := hid hRZv; have H_hs0 := hid hs0; have H_hv0 := hid hv0; clear hRZ hRZb hRZv hs0 hv0
     go_wp2_with (fail)
     go_meet
     case rel => exact ⟨_, hid ⟨H_hRZ.out, H_hRZb.out, H_hv0.out⟩, H_hbu7, hid (Keep.refl _ _)⟩
   · have t0 : ((s : Int) != 0) = true := by simp; omega
     have hsh := shrL_val (s := s) (by omega) (R ++ List.replicate M1 0)
     rw [hRZv, H_eR.out] at hsh
     have hv0 : val (shrL (R ++ List.replicate M1 0) s) = val ul % val vl := by
      have hm0 := Nat.mod_lt ((R ++ List.replicate M1 0).getD 0 0) (show 0 < 2 ^ s from Nat.pow_pos (by omega))
      generalize (R ++ List.replicate M1 0).getD 0 0 % 2 ^ s = d at *
      have h1 : (val (shrL (R ++ List.replicate M1 0) s) * 2 ^ s + d) / 2 ^ s = val (shrL (R ++ List.replicate M1 0) s) := by
       rw [Nat.mul_comm, Nat.mul_add_div (Nat.pow_pos (by omega)), Nat.div_eq_of_lt hm0]; rfl
      rw [hsh, Nat.mul_div_cancel _ (Nat.pow_pos (by omega))] at h1
      exact h1.symm
     have hsl : (shrL (R ++ List.replicate M1 0) s).length = N1 := by rw [shrL_length]; exact hRZ
     have hsb := shrL_lt hs0 (by omega) hRZb
     have hss : seg (spl Lu ou (R ++ List.replicate M1 0)) ou N1 = R ++ List.replicate M1 0 := by rw [← hRZ]; exact seg_spl (by have := hLu.out; omega)
     have hr := rshVU_any gu ou cu cu N1 s _ w7 (by omega) (by have := H_hN1.out; omega) hs0 hs64 H_hbu7.out (by have := hLu.out; rw [sgl (by omega)]; omega) (fun a ha => by
      rcases spl_mem ha with h | h
      · exact hLub.out a h
      · exact hRZb a h)
     rw [hss, spl_over (n := N1) (by have := hLu.out; omega) hRZ hsl] at hr
     have H_hRZ := hid hRZ; have H_hRZb := hid hRZb; have H_hRZv := hid hRZv; have H_hsh := hid hsh; have H_hv0 := hid hv0; have H_hsl := hid hsl; have H_hsb := hid hsb; have H_hss := hid hss; have H_hr := hid hr; clear hRZ hRZb hRZv hsh hv0 hsl hsb hss hr
     go_wp2_with (fail)
     refine H_hr.out.mono ?_
     rintro e w9 ⟨⟨cr, rfl⟩, hp9⟩
     go_wp2_with (fail)
     go_meet
     case rel => exact ⟨_, hid ⟨H_hsl.out, H_hsb.out, H_hv0.out⟩, hid hp9.out.2, hid hp9.out.1⟩
  case rest =>
   obtain ⟨rl, hrl, hbr, hkr⟩ := hcut
   have hra : NatAt wc (.slice (some ⟨gu, ou, none⟩) N1 cu) rl := by
    have := NatAt.spl hcuM hbr.out (cap := cu) (by rw [hrl.out.1]; exact hcu) (by have := hLu.out; omega) hLub.out hrl.out.2.1
    rw [hrl.out.1] at this; exact this
   have hno2 := norm_any _ _ _ (by rw [hrl.out.1]; have := H_hN1.out; omega) hra
   rw [hrl.out.2.2] at hno2
   have H_hra := hid hra; have H_hno2 := hid hno2; clear hra hno2
   go_wp2_with (fail)
   refine H_hno2.out.mono ?_
   rintro e w9 ⟨rv, lr, rfl, hr9, hrn, hrv, hro, rfl⟩
   have hlur : (spl Lu ou (R ++ List.replicate M1 0)).length = Lu.length := sgl (by have := hLu.out; have := H_hNn.out; have := H_hRl.out; simp; omega)
   have hE9 : StkE w.heap.size wc b := H_hE7.out.keep hkr.out (fun h => H_hgub.out h.symm) (fun k hk => ⟨_, hk ▸ H_hbu7.out, by rw [hlur]; exact H_hlup.out⟩)
   have hbq9 := H_hbq7.out.keep hkr.out (fun h => hgqu h)
   have H_hr9 := hid hr9; have H_hrn := hid hrn; have H_hrv := hid hrv; have H_hro := hid hro; have H_hE9 := hid hE9; have H_hbq9 := hid hbq9; have H_hlur := hid hlur; clear hr9 hrn hrv hro hE9 hbq9 hlur
   go_wp2_with (fail)
   refine leaves_cons (f := 182) (args := #[.pointer (some ⟨b, 0, none⟩), .int .i64 0]) (by simp) (by simp [go_sem]) ?_
   refine (stk_restore w.heap.size b _ H_hE9.out).mono ?_
   rintro e u' w'' ⟨rfl, rfl, hend⟩
   obtain ⟨S, hS, kS, hE10⟩ := hend.out
   have nSq : ¬ S gq := fun h => (hS _ h).2 _ H_hbq9.out (by rw [H_hqlen.out]; have := hLq.out; have := H_hM1.out; omega)
   have nSu : ¬ S gu := fun h => (hS _ h).2 _ hbr.out (by rw [sgl (by have := hLu.out; have := hrl.out.1; omega)]; exact H_hlup.out)
   refine ⟨.tuple #[qv, rv], ?_, ?_⟩
   · simp [results, Tryz.results169]
   · have hqg : ∀ k, qv.ownBlock = some k → k = gq := fun k hk => by have := H_hqo.out k hk; simpa [Value.ownBlock] using this.symm
     have hrg : ∀ k, rv.ownBlock = some k → k = gu := fun k hk => by have := H_hro.out k hk; simpa [Value.ownBlock] using this.symm
     have hsz := H_hszc.out
     have hgq : gq < w.heap.size → zv.ownBlock = some gq := fun h => by
      rcases hatq.out with ⟨n0, c0, hq⟩ | hq
      · rw [hq]; rfl
      · have : ∀ W : World, (W.drewN nd).heap.size = W.heap.size := fun _ => rfl
        rw [this] at hq; omega
     have hgu : gu < w.heap.size → z2v.ownBlock = some gu := fun h => by
      rcases hat.out with ⟨n0, c0, hq⟩ | hq
      · rw [hq]; rfl
      · have := H_f2.out.size; omega
     refine ⟨qv, lq, rv, lr, rfl, ?_, H_hqn.out, by rw [H_hqv.out, ← H_eQ.out], H_hr9.out.keep kS (fun g hg h => nSu (hrg g hg ▸ h)), H_hrn.out, H_hrv.out, ?_, ?_, ?_, ?_, hE10⟩
     · exact (H_hq8.out.keep hkr.out (fun g hg h => hgqu ((hqg g hg).symm.trans h))).keep kS (fun g hg h => nSq (hqg g hg ▸ h))
     · have k1 : Keep (fun k => k = b ∨ k = gt ∨ k = gu ∨ k = gq ∨ w.heap.size ≤ k) w _ := (((((H_f3.out.trans hk4.out (U := fun k => k = b ∨ k = gt ∨ k = gu ∨ k = gq ∨ w.heap.size ≤ k) (fun _ _ h => .inl h) (fun _ _ h => h.elim (fun h => .inr (.inl h)) (fun h => .inr (.inr (.inl h))))).trans H_f6.out (U := fun k => k = b ∨ k = gt ∨ k = gu ∨ k = gq ∨ w.heap.size ≤ k) (fun _ _ h => h) (fun _ _ h => h.elim)).trans H_hk7.out (U := fun k => k = b ∨ k = gt ∨ k = gu ∨ k = gq ∨ w.heap.size ≤ k) (fun _ _ h => h) (fun k _ h => by
        rcases h with h | h | h
        · exact .inr (.inr (.inr (.inl h)))
        · exact .inr (.inr (.inl h))
        · rcases H_t3.out k h with h | h
          · exact .inl h
          · exact .inr (.inr (.inr (.inr h))))).trans hkr.out (U := fun k => k = b ∨ k = gt ∨ k = gu ∨ k = gq ∨ w.heap.size ≤ k) (fun _ _ h => h) (fun _ _ h => .inr (.inr (.inl h)))).trans kS (U := fun k => k = b ∨ k = gt ∨ k = gu ∨ k = gq ∨ w.heap.size ≤ k) (fun _ _ h => h) (fun k _ h => .inr (.inr (.inr (.inr (hS k h).1)))))
       exact k1.mono (fun k hk h => by
        rcases h with h | h | h | h | h
        · exact .inl h
        · have := H_hgt.out; omega
        · exact .inr (.inr (by rw [h]; exact hgu (h ▸ hk)))
        · exact .inr (.inl (by rw [h]; exact hgq (h ▸ hk)))
        · omega)
     · intro k hk
       rw [hqg k hk]
       rcases Nat.lt_or_ge gq w.heap.size with h | h
       · exact .inl (hgq h)
       · exact .inr h
     · intro k hk
       rw [hrg k hk]
       rcases Nat.lt_or_ge gu w.heap.size with h | h
       · exact .inl (hgu h)
       · exact .inr h
     · intro k hk h
       exact hgqu ((hqg k hk).symm.trans (hrg k h))

theorem divW_one (zv xv : Value) (zl xl : List Nat) (w : World) (hn : xl.length < 1000000) (h : NatAt w zv zl) (hx : NatAt w xv xl) (hnx : Norm xl) (hsx : Sep zv xv) :
 Calls Tryz.prog 165 #[zv, xv, .int .u64 1] w (DivWRet w zv (val xl) 1) := by
 have hset := set_any zv xv zl xl w (by omega) h hx hsx
 obtain ⟨ax, cx, hxv⟩ := hx.form
 generalize xl.length = m at *
 subst hxv
 have H_h := hid h; have H_hx := hid hx; have H_hsx := hid hsx; have H_hset := hid hset; have H_hnx := hid hnx; have H_hn := hid hn; clear h hx hsx hset hnx hn
 go_enter Tryz.func165, Tryz.ntmps165
 go_wp2_with (fail)
 refine H_hset.out.mono ?_
 rintro e w1 ⟨rv, rfl, hop⟩
 have H_hop := hid hop; clear hop
 go_wp2_with (fail)
 go_ret2
 exact ⟨rv, xl, by simp [Nat.mod_one], H_hop.out, H_hnx.out, by simp⟩

theorem divW_all (zv xv : Value) (zl xl : List Nat) (y : Nat) (w : World) (hn : xl.length < 1000000) (hy : y < 18446744073709551616) (hy0 : 0 < y) (h : NatAt w zv zl) (hx : NatAt w xv xl) (hnx : Norm xl) (hsx : Sep zv xv) :
 Calls Tryz.prog 165 #[zv, xv, .int .u64 y] w (DivWRet w zv (val xl) y) := by
 by_cases h1 : y = 1
 · subst h1; exact divW_one zv xv zl xl w hn h hx hnx hsx
 · exact divW_any zv xv zl xl y w hn hy (by omega) h hx hsx

theorem div_1 (zv z2v uv vv : Value) (zl z2l ul : List Nat) (y : Nat) (w : World) (hn : ul.length < 1000000) (hy0 : 0 < y) (hz : NatAt w zv zl) (hz2 : NatAt w z2v z2l) (hu : NatAt w uv ul) (hnu : Norm ul) (hv : NatAt w vv [y]) (hs : Sep zv uv)
 (h2 : ∀ k, zv.ownBlock = some k → z2v.ownBlock ≠ some k) :
 Calls Tryz.prog 149 #[zv, .pointer none, z2v, uv, vv] w (QRRet w zv z2v (val ul) y) := by
 have hy : y < 18446744073709551616 := hv.bnd y (by simp)
 obtain ⟨gv, ov, cv, M, rfl, bv, hv1, hv2, hv3, hv4⟩ := hv.open_pos (by simp)
 have hv3' : M.getD ov 0 = y := by
  have := hv3
  rw [show [y].length = 1 from rfl, seg_head (by simp at hv1; omega), seg_zero] at this
  simpa using this.symm
 have hcv := bv.cell (o := ov) (by simp at hv1; omega)
 rw [hv3'] at hcv
 have hdw := divW_all zv uv zl ul y w hn hy hy0 hz hu hnu hs
 have hr : val ul % y < y := Nat.mod_lt _ (by omega)
 rw [show [y].length = 1 from rfl]
 clear hv hv1 hv2 hv3 hv4 hv3'
 have H_hz := hid hz; have H_hz2 := hid hz2; have H_hu := hid hu; have H_hs := hid hs; have H_h2 := hid h2; have H_hdw := hid hdw; have H_hr := hid hr; have H_bv := hid bv; have H_hy0 := hid hy0; have H_hy := hid hy; have H_hnu := hid hnu; clear hz hz2 hu hs h2 hdw hr bv hy0 hy hnu
 go_enter Tryz.func149, Tryz.ntmps149
 go_wp2_with (fail)
 refine H_hdw.out.mono ?_
 rintro e w1 ⟨qv, lq, rfl, hop, hqn, hqv⟩
 have hz2' : NatAt w1 z2v z2l := H_hz2.out.keep hop.keep (fun k hk hzk => H_h2.out k hzk hk)
 have hsw := setWord_any z2v z2l (val ul % y) w1 (by have := H_hr.out; have := H_hy.out; omega) hz2'
 have H_hop := hid hop; have H_hqn := hid hqn; have H_hqv := hid hqv; have H_hz2' := hid hz2'; have H_hsw := hid hsw; clear hop hqn hqv hz2' hsw
 go_wp2_with (fail)
 refine H_hsw.out.mono ?_
 rintro e w2 ⟨rv, lr, rfl, hop2, hrn, hrv⟩
 have H_hop2 := hid hop2; have H_hrn := hid hrn; have H_hrv := hid hrv; clear hop2 hrn hrv
 go_wp2_with (fail)
 go_ret2
 have hsz := H_hop.out.keep.size
 have hap : ∀ k, qv.ownBlock = some k → z2v.ownBlock ≠ some k := by
  intro k hk h
  rcases H_hop.out.own k hk with h' | h'
  · exact H_h2.out k h' h
  · have := H_hz2.out.lt h; omega
 refine ⟨qv, lq, rv, lr, rfl, H_hop.out.nat.keep H_hop2.out.keep (fun k hk h => hap k hk h), H_hqn.out, H_hqv.out, H_hop2.out.nat, H_hrn.out, H_hrv.out, ?_, H_hop.out.own, ?_, ?_⟩
 · exact H_hop.out.keep.trans H_hop2.out.keep (fun _ _ h => .inl h) (fun _ _ h => .inr h)
 · intro k hk
   rcases H_hop2.out.own k hk with h | h
   · exact .inl h
   · exact .inr (by omega)
 · intro k hk h
   rcases H_hop2.out.own k h with h' | h'
   · exact hap k hk h'
   · have := H_hop.out.nat.lt hk; omega

theorem getStack_f (w : World) : Calls Tryz.prog 167 #[] w (fun e w' => e = .returned (.pointer (some ⟨w.heap.size, 0, none⟩)) ∧ Hid (Stk0 w' w.heap.size ∧ w'.frozen? ⟨w.heap.size, 0, none⟩ = false ∧ Fresh w w')) := by
 go_enter Tryz.func167, Tryz.ntmps167
 go_wp2
 go_ret
 exact ⟨rfl, hid ⟨(rwc (heap_alloc_new w _) 0).trans rfl, frozen_of_row _ _ _ _ _ (heap_alloc_new w _), (Keep.refl _ _).alloc _⟩⟩

def StkS2 (h0 : Nat) (w : World) (S : Nat → Prop) : Prop := ∀ k, S k → h0 ≤ k ∧ ∀ L, ¬ Blk .u64 w k L

theorem stk_free2 (h0 b : Nat) (w : World) (h : StkE h0 w b) : CallsD Tryz.prog 168 #[.pointer (some ⟨b, 0, none⟩)] .returning w (fun e u' w' => u' = .returning ∧ e = .returned (.tuple #[]) ∧ Hid (∃ S, StkS2 h0 w S ∧ Keep S w w')) := by
 rcases h with h | ⟨si, g, n, G, h1, h2⟩
 · exact (free_nil b w h).mono (by rintro e u' w9 ⟨rfl, rfl, rfl⟩; exact ⟨rfl, rfl, hid ⟨fun _ => False, fun _ h => h.elim, Keep.refl _ _⟩⟩)
 · refine (free_some b _ _ _ _ w h2).mono ?_
   rintro e u' w9 ⟨rfl, rfl, h9⟩
   refine ⟨rfl, rfl, hid ⟨fun k => k = si, fun k hk => ⟨hk ▸ h1, fun L bk => ?_⟩, h9.out.2⟩⟩
   subst hk
   rcases Nat.eq_zero_or_pos L.length with hl | hl
   · have hc := h2.c
     obtain ⟨T, bk⟩ := bk
     have hL := List.eq_nil_of_length_eq_zero hl
     subst hL
     simp [World.cell?, bk] at hc
   · exact (h2.ne bk hl).2 rfl

theorem NatAt.stk {S : Nat → Prop} {h0 : Nat} {w w' : World} {v : Value} {l : List Nat} (h : NatAt w v l) (hS : StkS2 h0 w S) (hk : Keep S w w') : NatAt w' v l := by
 refine h.keep hk (fun g hg hs => ?_)
 rcases h.2 with ⟨rfl, _⟩ | ⟨g', off, cap, L, rfl, bk, _⟩
 · simp [Value.ownBlock] at hg
 · simp only [Value.ownBlock, Option.some.injEq] at hg
   subst hg
   exact (hS _ hs).2 L bk

theorem div_ltB (zv z2v uv vv : Value) (zl z2l ul vl : List Nat) (w : World) (hn : 2 ≤ vl.length) (hn3 : vl.length ≤ 39) (hul : ul.length ≤ 1000)
 (hz : NatAt w zv zl) (hz2 : NatAt w z2v z2l) (hu : NatAt w uv ul) (hnu : Norm ul) (hv : NatAt w vv vl) (hnv : Norm vl) (hlt : val ul < val vl)
 (ha : ∀ k, zv.ownBlock = some k → z2v.ownBlock ≠ some k) (hau : ∀ k, z2v.ownBlock = some k → uv.ownBlock ≠ some k) :
 Calls Tryz.prog 149 #[zv, .pointer none, z2v, uv, vv] w (QRRet w zv z2v (val ul) (val vl)) := by
 have hcmp := nat_cmp uv vv ul vl w (by omega) (by omega) hu hv hnu hnv
 rw [cmpN_lt hlt] at hcmp
 have hset := fun q => set_any z2v uv z2l ul (w.drewN q) (by omega) (hz2.drewN q) (hu.drewN q) (.inr hau)
 obtain ⟨av, cv, hvv⟩ := hv.form
 obtain ⟨az, cz, hzv⟩ := hz.form
 obtain ⟨rz, lz, he, hop0, hz0, hzv0⟩ := NatRet.empty hz hzv
 have t0 : ((vl.length : Int) == 0) = false := by rw [beq_eq_false_iff_ne]; omega
 have t1 : ((vl.length : Int) == 1) = false := by rw [beq_eq_false_iff_ne]; omega
 have hq0 : val ul / val vl = 0 := Nat.div_eq_of_lt hlt
 have hr0 : val ul % val vl = val ul := Nat.mod_eq_of_lt hlt
 obtain ⟨n, hnn⟩ : ∃ n, n = vl.length := ⟨_, rfl⟩
 obtain ⟨m, hmm⟩ : ∃ n, n = zl.length := ⟨_, rfl⟩
 rw [← hnn] at hvv t0 t1
 rw [← hmm] at hzv
 subst hvv hzv
 simp only [Ending.returned.injEq] at he
 subst he
 clear hn hn3 hmm hnn
 have H_hz := hid hz; have H_hz2 := hid hz2; have H_hu := hid hu; have H_hnu := hid hnu; have H_hv := hid hv; have H_hnv := hid hnv; have H_hlt := hid hlt; have H_ha := hid ha; have H_hau := hid hau; have H_hcmp := hid hcmp; have H_hset := hid hset; have H_hop0 := hid hop0; have H_hz0 := hid hz0; have H_hzv0 := hid hzv0; have H_hq0 := hid hq0; have H_hr0 := hid hr0; have H_hul := hid hul; clear hz hz2 hu hnu hv hnv hlt ha hau hcmp hset hop0 hz0 hzv0 hq0 hr0 hul
 go_enter Tryz.func149, Tryz.ntmps149
 go_wp2_with (fail)
 refine H_hcmp.out.mono ?_
 rintro e w1 ⟨rfl, nd, rfl⟩
 go_wp2_with (fail)
 refine (H_hset.out _).mono ?_
 rintro e w2 ⟨rv, rfl, hop2⟩
 have hop2 := hop2.of_drewN
 have H_hop2 := hid hop2; clear hop2
 go_wp2_with (fail)
 go_ret2
 refine ⟨_, lz, rv, ul, rfl, H_hop0.out.nat.keep H_hop2.out.keep (fun k hk h => ?_), H_hz0.out, by rw [H_hzv0.out, H_hq0.out], H_hop2.out.nat, H_hnu.out, H_hr0.out.symm, H_hop2.out.keep.mono (fun _ _ h => .inr h), H_hop0.out.own, H_hop2.out.own, ?_⟩
 · rcases H_hop0.out.own k hk with h' | h'
   · exact H_ha.out k h' h
   · have := H_hz2.out.lt h; omega
 · intro k hk h
   rcases H_hop2.out.own k h with h' | h'
   · rcases H_hop0.out.own k hk with h2 | h2
     · exact H_ha.out k h2 h'
     · have := H_hz2.out.lt h'; omega
   · have := H_hop0.out.nat.lt hk; omega

theorem div_geB (zv z2v uv vv : Value) (zl z2l ul vl : List Nat) (w : World) (hG : Glob w) (hn : 2 ≤ vl.length) (hn3 : vl.length ≤ 39) (hul : ul.length ≤ 1000)
 (hz : NatAt w zv zl) (hz2 : NatAt w z2v z2l) (hu : NatAt w uv ul) (hnu : Norm ul) (hv : NatAt w vv vl) (hnv : Norm vl) (hle : val vl ≤ val ul)
 (ha : ∀ k, zv.ownBlock = some k → z2v.ownBlock ≠ some k) (hau : ∀ k, z2v.ownBlock = some k → uv.ownBlock ≠ some k) (hav : ∀ k, z2v.ownBlock = some k → vv.ownBlock ≠ some k) :
 Calls Tryz.prog 149 #[zv, .pointer none, z2v, uv, vv] w (QRRet w zv z2v (val ul) (val vl)) := by
 have hcmp := nat_cmp uv vv ul vl w (by omega) (by omega) hu hv hnu hnv
 have t2 : decide (cmpN (val ul) (val vl) < 0) = false := by
  rcases Nat.eq_or_lt_of_le hle with h | h
  · rw [h]; simp [cmpN]
  · rw [cmpN_gt h]; decide
 generalize cmpN (val ul) (val vl) = cm at *
 have hlen : vl.length ≤ ul.length := hnv.len_le_len hu.bnd hle
 have hst := fun q => getStack_f (w.drewN q)
 have hdl : ∀ W, Stk0 W w.heap.size → W.frozen? ⟨w.heap.size, 0, none⟩ = false → Fresh w W → Calls Tryz.prog 169 #[zv, .pointer (some ⟨w.heap.size, 0, none⟩), z2v, uv, vv] W (DLRet W w.heap.size zv z2v (val ul) (val vl)) := fun W h1 hf h2 =>
  divLarge_gen zv z2v uv vv zl z2l ul vl w.heap.size W (hG.fresh h2) h1 hf hG.size (fun k hk h => Nat.lt_irrefl _ (h ▸ hz.lt hk)) (fun k hk h => Nat.lt_irrefl _ (h ▸ hz2.lt hk)) (fun k hk h => Nat.lt_irrefl _ (h ▸ hu.lt hk)) (fun k hk h => Nat.lt_irrefl _ (h ▸ hv.lt hk)) hn hn3 hlen hul (hz.keep h2 (fun _ _ h => h)) (hz2.keep h2 (fun _ _ h => h)) (hu.keep h2 (fun _ _ h => h)) (hv.keep h2 (fun _ _ h => h)) hnv ha hau hav
 have hzlt := fun k (h : zv.ownBlock = some k) => hz.lt h
 have hz2lt := fun k (h : z2v.ownBlock = some k) => hz2.lt h
 obtain ⟨av, cv, hvv⟩ := hv.form
 have t0 : ((vl.length : Int) == 0) = false := by rw [beq_eq_false_iff_ne]; omega
 have t1 : ((vl.length : Int) == 1) = false := by rw [beq_eq_false_iff_ne]; omega
 obtain ⟨n, hnn⟩ : ∃ n, n = vl.length := ⟨_, rfl⟩
 rw [← hnn] at hvv t0 t1
 subst hvv
 clear hn hn3 hnn hlen
 have H_hG := hid hG; have H_hz := hid hz; have H_hz2 := hid hz2; have H_hu := hid hu; have H_hnu := hid hnu; have H_hv := hid hv; have H_hnv := hid hnv; have H_hle := hid hle; have H_ha := hid ha; have H_hau := hid hau; have H_hav := hid hav; have H_hcmp := hid hcmp; have H_hst := hid hst; have H_hdl := hid hdl; have H_hul := hid hul; have H_hzlt := hid hzlt; have H_hz2lt := hid hz2lt; clear hG hz hz2 hu hnu hv hnv hle ha hau hav hcmp hst hdl hul hzlt hz2lt
 go_enter_defers Tryz.func149, Tryz.ntmps149
 go_wp2_with (fail)
 refine H_hcmp.out.mono ?_
 rintro e w1 ⟨rfl, nd, rfl⟩
 go_wp2_with (fail)
 refine (H_hst.out _).mono ?_
 rintro e w2 ⟨rfl, hs2⟩
 obtain ⟨st2, fz2, f2⟩ := hs2.out
 have f2 : Fresh w w2 := f2.of_drewN
 clear hs2
 have hd2 := H_hdl.out w2 st2 fz2 f2
 have H_st2 := hid st2; have H_fz2 := hid fz2; have H_f2 := hid f2; have H_hd2 := hid hd2; clear st2 fz2 f2 hd2
 go_wp2_with (fail)
 refine H_hd2.out.mono ?_
 rintro e w3 ⟨qv, lq, rv, lr, rfl, p1, p2, p3, p4, p5, p6, p7, p8, p9, p10, pE⟩
 have hsz := H_f2.out.size
 have H_p1 := hid p1; have H_p2 := hid p2; have H_p3 := hid p3; have H_p4 := hid p4; have H_p5 := hid p5; have H_p6 := hid p6; have H_p7 := hid p7; have H_p8 := hid p8; have H_p9 := hid p9; have H_p10 := hid p10; have H_pE := hid pE; have H_hsz := hid hsz; clear p1 p2 p3 p4 p5 p6 p7 p8 p9 p10 pE hsz
 go_wp2_with (fail)
 refine leaves_cons (f := 168) (args := #[.pointer (some ⟨w.heap.size, 0, none⟩)]) (by simp) (by simp [go_sem]) ?_
 refine (stk_free2 w2.heap.size w.heap.size _ H_pE.out).mono ?_
 rintro e u' w'' ⟨rfl, rfl, hend⟩
 obtain ⟨S, hS, kS⟩ := hend.out
 refine ⟨.tuple #[qv, rv], ?_, ?_⟩
 · simp [results, Tryz.results149]
 · have k1 := (H_f2.out.trans H_p7.out (U := fun k => k = w.heap.size ∨ zv.ownBlock = some k ∨ z2v.ownBlock = some k) (fun _ _ h => h.elim) (fun _ _ h => h)).trans kS (U := fun k => k = w.heap.size ∨ zv.ownBlock = some k ∨ z2v.ownBlock = some k ∨ w2.heap.size ≤ k) (fun _ _ h => h.imp_right (fun h => h.imp_right .inl)) (fun k _ h => .inr (.inr (.inr (hS k h).1)))
   have k2 : Keep (fun k => zv.ownBlock = some k ∨ z2v.ownBlock = some k) w w'' := k1.mono (fun k hk h => by
    have := H_hsz.out
    rcases h with h | h | h | h
    · omega
    · exact .inl h
    · exact .inr h
    · omega)
   exact ⟨qv, lq, rv, lr, rfl, H_p1.out.stk hS kS, H_p2.out, H_p3.out, H_p4.out.stk hS kS, H_p5.out, H_p6.out, k2,
    fun k hk => (H_p8.out k hk).imp_right (fun h => Nat.le_trans H_hsz.out h), fun k hk => (H_p9.out k hk).imp_right (fun h => Nat.le_trans H_hsz.out h), H_p10.out⟩

theorem div_gen (zv z2v uv vv : Value) (zl z2l ul vl : List Nat) (w : World) (hG : Glob w) (hn : 0 < vl.length) (hn3 : vl.length ≤ 39) (hul : ul.length ≤ 1000)
 (hz : NatAt w zv zl) (hz2 : NatAt w z2v z2l) (hu : NatAt w uv ul) (hnu : Norm ul) (hv : NatAt w vv vl) (hnv : Norm vl) (hs : Sep zv uv)
 (ha : ∀ k, zv.ownBlock = some k → z2v.ownBlock ≠ some k) (hau : ∀ k, z2v.ownBlock = some k → uv.ownBlock ≠ some k) (hav : ∀ k, z2v.ownBlock = some k → vv.ownBlock ≠ some k) :
 Calls Tryz.prog 149 #[zv, .pointer none, z2v, uv, vv] w (QRRet w zv z2v (val ul) (val vl)) := by
 rcases Nat.lt_or_ge 1 vl.length with h1 | h1
 · rcases Nat.lt_or_ge (val ul) (val vl) with h2 | h2
   · exact div_ltB zv z2v uv vv zl z2l ul vl w h1 hn3 hul hz hz2 hu hnu hv hnv h2 ha hau
   · exact div_geB zv z2v uv vv zl z2l ul vl w hG h1 hn3 hul hz hz2 hu hnu hv hnv h2 ha hau hav
 · obtain ⟨y, rfl⟩ : ∃ y, vl = [y] := by
    match vl, hn, h1 with
    | [y], _, _ => exact ⟨y, rfl⟩
   have hy : 0 < y := by
    have := hnv 0 (by simp)
    simp at this
    omega
   have := div_1 zv z2v uv vv zl z2l ul y w (by omega) hy hz hz2 hu hnu hv hs ha
   rw [show val [y] = y by simp [val]]
   exact this

end Go.Proofs.YtllencgncinphaaGreatDoor
