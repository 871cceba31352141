/- The contracts of math/big's natural numbers: add, sub. -/
import Derived.Test.YtllencgncinphaaGreatDoorKE4
namespace Go.Proofs.YtllencgncinphaaGreatDoor
open Go.RowKit
open Go.Lib (hid)
set_option maxRecDepth 20000
set_option maxHeartbeats 1000000

theorem addVW (gz oz cz gx ox cx n y : Nat) (Lz Lx : List Nat) (w : World) (hn : 0 < n) (hlen : n ≤ 1000000)
 (bz : Blk .u64 w gz Lz) (bx : Blk .u64 w gx Lx) (hz : oz + n ≤ Lz.length) (hx : ox + n ≤ Lx.length)
 (hbx : ∀ a ∈ Lx, a < 18446744073709551616) (hy : y < 18446744073709551616) (hax : gx ≠ gz ∨ ox = oz) (hcz : n ≤ cz) (hcx : n ≤ cx) :
 Calls Tryz.prog 160 #[.slice (some ⟨gz, oz, none⟩) n cz, .slice (some ⟨gx, ox, none⟩) n cx, .int .u64 y] w
  fun e w' => e = .returned (.int .u64 ((addWs (seg Lx ox n) y).2 : Nat)) ∧ Puts .u64 gz (spl Lz oz (addWs (seg Lx ox n) y).1) w w' := by
 by_cases hg : gx = gz
 · subst hg
   obtain rfl : ox = oz := by omega
   obtain rfl := Blk.uniq bz bx
   exact addVW_same gx ox cz cx n y Lz w hn hlen bz hz hbx hy hcz hcx
 · exact addVW_apart gz oz cz gx ox cx n y Lz Lx w hn hlen bz bx hz hx hbx hy hg hcz hcx

theorem subVW (gz oz cz gx ox cx n y : Nat) (Lz Lx : List Nat) (w : World) (hn : 0 < n) (hlen : n ≤ 1000000)
 (bz : Blk .u64 w gz Lz) (bx : Blk .u64 w gx Lx) (hz : oz + n ≤ Lz.length) (hx : ox + n ≤ Lx.length)
 (hbx : ∀ a ∈ Lx, a < 18446744073709551616) (hy : y < 18446744073709551616) (hax : gx ≠ gz ∨ ox = oz) (hcz : n ≤ cz) (hcx : n ≤ cx) :
 Calls Tryz.prog 162 #[.slice (some ⟨gz, oz, none⟩) n cz, .slice (some ⟨gx, ox, none⟩) n cx, .int .u64 y] w
  fun e w' => e = .returned (.int .u64 ((subWs (seg Lx ox n) y).2 : Nat)) ∧ Puts .u64 gz (spl Lz oz (subWs (seg Lx ox n) y).1) w w' := by
 by_cases hg : gx = gz
 · subst hg
   obtain rfl : ox = oz := by omega
   obtain rfl := Blk.uniq bz bx
   exact subVW_same gx ox cz cx n y Lz w hn hlen bz hz hbx hy hcz hcx
 · exact subVW_apart gz oz cz gx ox cx n y Lz Lx w hn hlen bz bx hz hx hbx hy hg hcz hcx

def addNs (xs ys : List Nat) : List Nat := (addVs (xs.take ys.length) ys 0).1 ++ (addWs (xs.drop ys.length) (addVs (xs.take ys.length) ys 0).2).1 ++ [(addWs (xs.drop ys.length) (addVs (xs.take ys.length) ys 0).2).2]

theorem addNs_val {xs ys : List Nat} (h : ys.length ≤ xs.length) : val (addNs xs ys) = val xs + val ys := by
 have hl : (xs.take ys.length).length = ys.length := by simp; omega
 have e1 := addVs_val (xs.take ys.length) ys 0 hl
 have e2 := addWs_val (xs.drop ys.length) (addVs (xs.take ys.length) ys 0).2
 have e3 : val xs = val (xs.take ys.length) + wpow ys.length * val (xs.drop ys.length) := by
  have := val_append (xs.take ys.length) (xs.drop ys.length)
  rw [List.take_append_drop, hl] at this; exact this
 unfold addNs
 rw [val_append, val_append, List.length_append, addVs_length _ _ _ hl, addWs_length, hl, wpow_add]
 rw [hl] at e1
 simp only [val, Nat.mul_zero, Nat.add_zero]
 generalize (addVs (xs.take ys.length) ys 0).2 = c at *
 generalize (addWs (xs.drop ys.length) c).2 = d at *
 generalize val (addWs (xs.drop ys.length) c).1 = v2 at *
 generalize wpow (xs.drop ys.length).length = p2 at *
 generalize wpow ys.length = p1 at *
 grind

theorem addNs_length {xs ys : List Nat} (h : ys.length ≤ xs.length) : (addNs xs ys).length = xs.length + 1 := by
 have hl : (xs.take ys.length).length = ys.length := by simp; omega
 unfold addNs
 simp only [List.length_append, addVs_length _ _ _ hl, addWs_length, hl, List.length_drop, List.length_cons, List.length_nil]
 omega

theorem addNs_lt {xs ys : List Nat} (hx : ∀ a ∈ xs, a < 18446744073709551616) (hy : ∀ a ∈ ys, a < 18446744073709551616) : ∀ a ∈ addNs xs ys, a < 18446744073709551616 := by
 intro a ha
 unfold addNs at ha
 simp only [List.mem_append, List.mem_singleton] at ha
 rcases ha with (ha | ha) | ha
 · exact addVs_lt _ _ _ a ha
 · exact addWs_lt _ _ a ha
 · have := addWs_carry (xs.drop ys.length) (addVs (xs.take ys.length) ys 0).2 (fun a ha => hx a (List.mem_of_mem_drop ha)) (addVs_carry _ _ _ (fun a ha => hx a (List.mem_of_mem_take ha)) hy (by omega))
   omega

theorem NatAt.spl {w : World} {g off cap : Nat} {L l : List Nat} (hc : cap ≤ 9223372036854775807) (h : Blk .u64 w g (spl L off l)) (h1 : l.length ≤ cap) (h2 : off + cap ≤ L.length) (hL : ∀ x ∈ L, x < 18446744073709551616) (hl : ∀ x ∈ l, x < 18446744073709551616) :
 NatAt w (.slice (some ⟨g, off, none⟩) l.length cap) l := by
 have := NatAt.mk (n := l.length) hc h h1 (by rw [sgl (by omega)]; exact h2) (fun x hx => by
  rcases spl_mem hx with h | h
  · exact hL x h
  · exact hl x h)
 rw [seg_spl (by omega)] at this
 exact this

theorem add_ge (zv xv yv : Value) (zl xl yl : List Nat) (w : World) (hn : xl.length < 1000000) (hy0 : 0 < yl.length) (hyx : yl.length ≤ xl.length) (h : NatAt w zv zl) (hx : NatAt w xv xl) (hy : NatAt w yv yl) (hsx : Sep zv xv) (hsy : Sep zv yv) :
 Calls Tryz.prog 145 #[zv, xv, yv] w (NatRet w zv (val xl + val yl)) := by
 obtain ⟨gx, ox, cx, M, rfl, bx, hx1, hx2, hx3, hx4⟩ := hx.open_pos (by omega)
 obtain ⟨gy, oy, cy, K, rfl, by_, hy1, hy2, hy3, hy4⟩ := hy.open_pos (by omega)
 have hm := make_any zv zl (xl.length + 1) w (by omega) (by omega) h
 have hgx := bx.lt
 have hgy := by_.lt
 have hxb := hx.bnd
 have hyb := hy.bnd
 have hm0 : ((xl.length : Int) == 0) = false := by rw [beq_eq_false_iff_ne]; omega
 have hy0' : ((yl.length : Int) == 0) = false := by rw [beq_eq_false_iff_ne]; omega
 generalize hml : xl.length = m at *
 generalize hnl : yl.length = n at *
 have hlt : ¬ m < n := by omega
 have hnx : (n : Int) ≤ (cx : Int) := by omega
 have hny : (n : Int) ≤ (cy : Int) := by omega
 have hn0 : (0 : Int) ≤ (n : Int) := by omega
 have H_h := hid h; have H_hm := hid hm; have H_hx := hid hx; have H_hy := hid hy; have H_hsx := hid hsx; have H_hsy := hid hsy; have H_bx := hid bx; have H_by_ := hid by_; have H_hx3 := hid hx3; have H_hx4 := hid hx4; have H_hx2 := hid hx2; have H_hy3 := hid hy3; have H_hy4 := hid hy4; have H_hy2 := hid hy2; have H_hml := hid hml; have H_hnl := hid hnl; have H_hxb := hid hxb; have H_hyb := hid hyb; clear h hm hx hy hsx hsy bx by_ hx3 hx4 hx2 hy3 hy4 hy2 hml hnl hxb hyb
 go_enter Tryz.func145, Tryz.ntmps145
 go_wp2_with (fail)
 refine H_hm.out.mono ?_
 intro e w1 hm
 obtain ⟨g, off, cap, L, rfl, hb, h1, h2, h3, h4, h5, hcap⟩ := hm.split
 clear hm
 have hnz : (n : Int) ≤ (cap : Int) := by omega
 go_wp2_with (fail)
 go_still_tail 9, (by kernel_rfl)
 change wpList _ _ _ _ _ (World.drew _)
 have b1 := hb.out.drew
 have k1 := h4.out.drew
 have H_b1 := hid b1; have H_k1 := hid k1; clear b1 k1
 generalize World.drew w1 = w2 at *
 have bx1 := H_bx.out.keep H_k1.out (fun h => h)
 have by1 := H_by_.out.keep H_k1.out (fun h => h)
 have H_bx1 := hid bx1; have H_by1 := hid by1; clear bx1 by1
 have hadd := addVV g off cap gx ox cx gy oy cy n L M K w2 (by omega) H_b1.out H_bx1.out H_by1.out (by have := h2.out; omega) (by have := H_hx2.out; omega) (by have := H_hy2.out; omega) H_hx4.out H_hy4.out
  (by have := h5.out.apart H_hsx.out hgx; omega) (by have := h5.out.apart H_hsy.out hgy; omega)
 have H_hadd := hid hadd; clear hadd
 go_wp2_with (fail)
 refine H_hadd.out.mono ?_
 rintro e w3 ⟨rfl, hp⟩
 have ex : seg M ox n = xl.take yl.length := by rw [H_hx3.out, H_hnl.out]; exact (seg_take (by omega)).symm
 have ey : seg K oy n = yl := H_hy3.out.symm
 have ed : seg M (ox + n) (m - n) = xl.drop yl.length := by
  rw [H_hnl.out, H_hx3.out]
  have hs := seg_split (L := M) (off := ox) (n := m) (m := n) (by omega) (by have := H_hx2.out; omega)
  rw [hs, List.drop_append_of_le_length (by rw [sgL (by have := H_hx2.out; omega)]; exact Nat.le_refl _), List.drop_eq_nil_of_le (by rw [sgL (by have := H_hx2.out; omega)]; exact Nat.le_refl _), List.nil_append]
 have hl1 : (addVs (xl.take yl.length) yl 0).1.length = n := by
  have := H_hml.out; have := H_hnl.out
  rw [addVs_length _ _ _ (by simp; omega)]; simp; omega
 have hc1 := addVs_carry (xl.take yl.length) yl 0 (fun a ha => H_hxb.out a (List.mem_of_mem_take ha)) H_hyb.out (by omega)
 rw [ex, ey] at hp ⊢
 have hN : addNs xl yl = (addVs (xl.take yl.length) yl 0).1 ++ (addWs (xl.drop yl.length) (addVs (xl.take yl.length) yl 0).2).1 ++ [(addWs (xl.drop yl.length) (addVs (xl.take yl.length) yl 0).2).2] := rfl
 have hNl := addNs_lt H_hxb.out H_hyb.out
 have hNn : (addNs xl yl).length = m + 1 := by
  have := H_hml.out; have := H_hnl.out
  rw [addNs_length (by omega)]; omega
 generalize hr1 : addVs (xl.take yl.length) yl 0 = r1 at *
 obtain ⟨s1, c1⟩ := r1
 simp only at hp hl1 hc1 hN
 -- what stands at the end, one way or the other
 have fin : ∀ w5, Puts .u64 g (spl L off (addNs xl yl)) w2 w5 → Calls Tryz.prog 152 #[.slice (some ⟨g, off, none⟩) (m + 1) cap] w5 (NatRet w zv (val xl + val yl)) := by
  intro w5 hp5
  have hna : NatAt w5 (.slice (some ⟨g, off, none⟩) (m + 1) cap) (addNs xl yl) := by
   have := NatAt.spl hcap hp5.blk (cap := cap) (by omega) h2.out h3.out hNl
   rw [hNn] at this; exact this
  refine (norm_any _ _ _ (by omega) hna).mono ?_
  rintro e w6 ⟨rv, l, rfl, h6, hnorm, hval, hown, rfl⟩
  refine ⟨rv, l, rfl, NatOp.of h5.out (H_k1.out) hp5.keep h6 (fun k hk => by have := hown k hk; simpa [Value.ownBlock] using this.symm), hnorm, ?_⟩
  rw [hval, addNs_val (by have := H_hml.out; have := H_hnl.out; omega)]
 have H_fin := hid fin; have H_hp := hid hp; have H_ex := hid ex; have H_ey := hid ey; have H_ed := hid ed; have H_hl1 := hid hl1; have H_hc1 := hid hc1; have H_hN := hid hN; have H_hNl := hid hNl; have H_hNn := hid hNn; have H_hr1 := hid hr1; clear fin hp ex ey ed hl1 hc1 hN hNl hNn hr1
 by_cases hnm : n < m
 · go_wp2_with (fail)
   have hnx' : (n : Int) ≤ (m : Int) := by omega
   have hnz' : (m : Int) ≤ (cap : Int) := by omega
   have hm1' : (m : Int) ≤ (m : Int) + 1 := by omega
   go_still_tail 8, (by kernel_rfl)
   change wpList _ _ _ _ _ (World.drew _)
   have p2 := H_hp.out.drew
   have H_p2 := hid p2; clear p2
   clear hnx' hnz' hm1'
   generalize World.drew w3 = w4 at *
   obtain ⟨M', bx4, hM', hMl, hMb⟩ : ∃ M', Blk .u64 w4 gx M' ∧ seg M' (ox + n) (m - n) = xl.drop yl.length ∧ ox + m ≤ M'.length ∧ (∀ a ∈ M', a < 18446744073709551616) := by
    have l1 := H_hl1.out; have l2 := H_hx2.out; have l3 := h2.out
    by_cases e : gx = g
    · subst e
      have eo : ox = off := by have := h5.out.apart H_hsx.out hgx; omega
      subst eo
      obtain rfl := Blk.uniq H_bx1.out H_b1.out
      refine ⟨_, H_p2.out.blk, ?_, by rw [sgl (by omega)]; omega, fun a ha => ?_⟩
      · rw [← H_ed.out]
        refine seg_ext (by rw [sgl (by omega)]; omega) (by omega) (fun j hj => ?_)
        rw [sgD (by omega), if_neg (by omega)]
      · rcases spl_mem ha with h | h
        · exact h3.out a h
        · have := addVs_lt (xl.take yl.length) yl 0; rw [H_hr1.out] at this; exact this a h
    · exact ⟨M, H_p2.out.other e H_bx1.out, H_ed.out, by omega, H_hx4.out⟩
   have hadd2 := addVW g (off + n) (cap - n) gx (ox + n) (cx - n) (m - n) c1 _ M' w4 (by omega) (by omega) H_p2.out.blk bx4 (by have := H_hl1.out; have := h2.out; rw [sgl (by omega)]; omega) (by omega) hMb (by have := H_hc1.out; omega)
    (by have := h5.out.apart H_hsx.out hgx; omega) (by omega) (by omega)
   rw [hM', spl_spl (by rw [H_hl1.out]) (by
    have := H_hl1.out; have := h2.out; have := H_hml.out; have := H_hnl.out
    rw [addWs_length, List.length_drop]; omega)] at hadd2
   have H_hadd2 := hid hadd2; have H_bx4 := hid bx4; have H_hM' := hid hM'; have H_hMl := hid hMl; have H_hMb := hid hMb; clear hadd2 bx4 hM' hMl hMb
   go_wp2_with (fail)
   refine H_hadd2.out.mono ?_
   rintro e w5 ⟨rfl, hp5⟩
   have p5 := H_p2.out.trans hp5
   have hl2 : (s1 ++ (addWs (xl.drop yl.length) c1).1).length = m := by
    have := H_hl1.out; have := H_hml.out; have := H_hnl.out
    rw [List.length_append, addWs_length, List.length_drop]; omega
   have c1' := p5.blk.cell (o := off + m) (by have := h2.out; rw [sgl (by omega)]; omega)
   have c2' := p5.blk.frozen (off + m)
   have p6 := p5.set (off + m) (addWs (xl.drop yl.length) c1).2
   rw [spl_set (by rw [hl2]) (by have := h2.out; omega), ← H_hN.out] at p6
   generalize (addWs (xl.drop yl.length) c1).2 = d at *
   generalize (spl L off (s1 ++ (addWs (xl.drop yl.length) c1).1)).getD (off + m) 0 = z9 at *
   have H_p6 := hid p6; have H_p5 := hid p5; have H_hp5 := hid hp5; have H_hl2 := hid hl2; clear p6 p5 hp5 hl2
   go_wp2_with (fail)
   refine (H_fin.out _ H_p6.out).mono ?_
   rintro e w7 h7
   obtain ⟨rv, l, rfl, h7⟩ := h7
   have H_h7 := hid h7; clear h7
   go_wp2
   go_ret
   exact ⟨rv, l, rfl, H_h7.out⟩
 · have p5 := H_hp.out
   have c1' := p5.blk.cell (o := off + m) (by have := H_hl1.out; have := h2.out; rw [sgl (by omega)]; omega)
   have c2' := p5.blk.frozen (off + m)
   have p6 := p5.set (off + m) c1
   have hd : xl.drop yl.length = [] := List.drop_eq_nil_of_le (by have := H_hml.out; have := H_hnl.out; omega)
   have hN := H_hN.out
   rw [hd] at hN
   simp only [addWs, List.append_nil] at hN
   rw [spl_set (by rw [H_hl1.out]; omega) (by have := h2.out; omega), ← hN] at p6
   generalize (spl L off s1).getD (off + m) 0 = z9 at *
   clear hd
   have H_p6 := hid p6; have H_p5 := hid p5; have H_hN := hid hN; clear p6 p5 hN
   go_wp2_with (fail)
   refine (H_fin.out _ H_p6.out).mono ?_
   rintro e w7 h7
   obtain ⟨rv, l, rfl, h7⟩ := h7
   have H_h7 := hid h7; clear h7
   go_wp2
   go_ret
   exact ⟨rv, l, rfl, H_h7.out⟩

theorem NatRet.own {w : World} {zv : Value} {n : Nat} {e : Ending} {w' : World} (h : NatRet w zv n e w') : ∃ rv, e = .returned rv ∧ NatRet w zv n (.returned rv) w' := by
 obtain ⟨rv, l, rfl, h⟩ := h
 exact ⟨rv, rfl, rv, l, rfl, h⟩

theorem add_ge' (zv xv yv : Value) (zl xl yl : List Nat) (w : World) (hn : xl.length < 1000000) (hyx : yl.length ≤ xl.length) (h : NatAt w zv zl) (hx : NatAt w xv xl) (hy : NatAt w yv yl) (hnx : Norm xl) (hsx : Sep zv xv) (hsy : Sep zv yv) :
 Calls Tryz.prog 145 #[zv, xv, yv] w (NatRet w zv (val xl + val yl)) := by
 by_cases hy0 : yl.length = 0
 · obtain ⟨a, c, hv⟩ := h.form
   obtain ⟨ax, cx, hxv⟩ := hx.form
   obtain ⟨ay, cy, hyv⟩ := hy.form
   have hyl : yl = [] := List.eq_nil_of_length_eq_zero hy0
   have hr := NatRet.empty h hv
   have hset := set_any zv xv zl xl w (by omega) h hx hsx
   rw [hyl]
   have e0 : val xl + val [] = val xl := rfl
   rw [e0]
   rw [hy0] at hyv
   by_cases hx0 : xl.length = 0
   · have hxl : xl = [] := List.eq_nil_of_length_eq_zero hx0
     rw [hxl]
     rw [hx0] at hxv
     subst hxv hyv
     generalize zl.length = n at *
     subst hv
     have H_h := hid h; have H_hx := hid hx; have H_hy := hid hy; have H_hsx := hid hsx; have H_hsy := hid hsy; have H_hset := hid hset; have H_hr := hid hr; have H_hnx := hid hnx; have H_hxl := hid hxl; have H_hyl := hid hyl; clear h hx hy hsx hsy hset hr hnx hxl hyl
     clear hyx hn hy0 hx0
     go_enter Tryz.func145, Tryz.ntmps145
     go_wp2
     go_ret
     exact H_hr.out
   · have hm0 : ((xl.length : Int) == 0) = false := by rw [beq_eq_false_iff_ne]; omega
     generalize hml : xl.length = m at *
     have hpos : 0 < m := by omega
     subst hxv hyv
     clear hv hr
     have H_h := hid h; have H_hx := hid hx; have H_hy := hid hy; have H_hsx := hid hsx; have H_hsy := hid hsy; have H_hset := hid hset; have H_hnx := hid hnx; have H_hyl := hid hyl; have H_hml := hid hml; clear h hx hy hsx hsy hset hnx hyl hml
     clear hyx hy0 hx0
     go_enter Tryz.func145, Tryz.ntmps145
     go_wp2_with (fail)
     refine H_hset.out.mono ?_
     rintro e w1 ⟨rv, rfl, hop⟩
     have H_hop := hid hop; clear hop
     go_wp2
     go_ret
     exact ⟨rv, xl, rfl, H_hop.out, H_hnx.out, rfl⟩
 · exact add_ge zv xv yv zl xl yl w hn (by omega) hyx h hx hy hsx hsy

theorem nat_add (zv xv yv : Value) (zl xl yl : List Nat) (w : World) (hn : xl.length < 1000000) (hn' : yl.length < 1000000) (h : NatAt w zv zl) (hx : NatAt w xv xl) (hy : NatAt w yv yl) (hnx : Norm xl) (hny : Norm yl) (hsx : Sep zv xv) (hsy : Sep zv yv) :
 Calls Tryz.prog 145 #[zv, xv, yv] w (NatRet w zv (val xl + val yl)) := by
 by_cases hlt : xl.length < yl.length
 · have hr := add_ge' zv yv xv zl yl xl w hn' (by omega) h hy hx hny hsy hsx
   rw [Nat.add_comm] at hr
   obtain ⟨ax, cx, hxv⟩ := hx.form
   obtain ⟨ay, cy, hyv⟩ := hy.form
   generalize xl.length = m at *
   generalize yl.length = n at *
   subst hxv hyv
   have H_h := hid h; have H_hx := hid hx; have H_hy := hid hy; have H_hsx := hid hsx; have H_hsy := hid hsy; have H_hr := hid hr; have H_hnx := hid hnx; have H_hny := hid hny; clear h hx hy hsx hsy hr hnx hny
   go_enter Tryz.func145, Tryz.ntmps145
   go_wp2_with (fail)
   refine H_hr.out.mono ?_
   intro e w1 h1
   obtain ⟨rv, rfl, h1⟩ := h1.own
   have H_h1 := hid h1; clear h1
   go_wp2
   go_ret
   exact H_h1.out
 · exact add_ge' zv xv yv zl xl yl w hn (by omega) h hx hy hnx hsx hsy

def subNs (xs ys : List Nat) : List Nat := (subVs (xs.take ys.length) ys 0).1 ++ (subWs (xs.drop ys.length) (subVs (xs.take ys.length) ys 0).2).1

theorem subNs_length {xs ys : List Nat} (h : ys.length ≤ xs.length) : (subNs xs ys).length = xs.length := by
 have hl : (xs.take ys.length).length = ys.length := by simp; omega
 unfold subNs
 simp only [List.length_append, subVs_length _ _ _ hl, subWs_length, hl, List.length_drop]
 omega

theorem subNs_lt (xs ys : List Nat) : ∀ a ∈ subNs xs ys, a < 18446744073709551616 := by
 intro a ha
 unfold subNs at ha
 simp only [List.mem_append] at ha
 rcases ha with ha | ha
 · exact subVs_lt _ _ _ a ha
 · exact subWs_lt _ _ a ha

theorem subNs_val {xs ys : List Nat} (h : ys.length ≤ xs.length) (hx : ∀ a ∈ xs, a < 18446744073709551616) (hy : ∀ a ∈ ys, a < 18446744073709551616) (hv : val ys ≤ val xs) :
 val (subNs xs ys) = val xs - val ys ∧ (subWs (xs.drop ys.length) (subVs (xs.take ys.length) ys 0).2).2 = 0 := by
 have hl : (xs.take ys.length).length = ys.length := by simp; omega
 have hc := subVs_carry (xs.take ys.length) ys 0 (by omega)
 have e1 := subVs_val (xs.take ys.length) ys 0 hl (fun a ha => hx a (List.mem_of_mem_take ha)) hy (by omega)
 have e2 := subWs_val (xs.drop ys.length) (subVs (xs.take ys.length) ys 0).2 (fun a ha => hx a (List.mem_of_mem_drop ha)) (by omega)
 have hd := subWs_carry (xs.drop ys.length) (subVs (xs.take ys.length) ys 0).2 hc
 have e3 : val xs = val (xs.take ys.length) + wpow ys.length * val (xs.drop ys.length) := by
  have := val_append (xs.take ys.length) (xs.drop ys.length)
  rw [List.take_append_drop, hl] at this; exact this
 have e4 := val_lt (subNs_lt xs ys)
 rw [subNs_length h] at e4
 have e5 : wpow xs.length = wpow ys.length * wpow (xs.drop ys.length).length := by rw [← wpow_add]; congr 1; simp; omega
 unfold subNs at e4 ⊢
 rw [val_append, subVs_length _ _ _ hl, hl] at e4 ⊢
 rw [hl] at e1
 generalize (subVs (xs.take ys.length) ys 0).2 = c at *
 generalize (subWs (xs.drop ys.length) c).2 = d at *
 generalize val (subWs (xs.drop ys.length) c).1 = v2 at *
 generalize val (subVs (xs.take ys.length) ys 0).1 = v1 at *
 generalize val (xs.take ys.length) = t1 at *
 generalize val (xs.drop ys.length) = t2 at *
 generalize wpow (xs.drop ys.length).length = p2 at *
 generalize wpow ys.length = p1 at *
 have key : v1 + p1 * v2 + val ys = val xs + wpow xs.length * d := by
  have : p1 * (v2 + c) = p1 * (t2 + p2 * d) := by rw [e2]
  grind
 have : d = 0 := by
  rcases Nat.eq_zero_or_pos d with h | h
  · exact h
  · have : wpow xs.length * 1 ≤ wpow xs.length * d := Nat.mul_le_mul_left _ h
    omega
 subst this
 exact ⟨by omega, rfl⟩

theorem sub_pos (zv xv yv : Value) (zl xl yl : List Nat) (w : World) (hn : xl.length < 1000000) (hy0 : 0 < yl.length) (hyx : yl.length ≤ xl.length) (hle : val yl ≤ val xl) (h : NatAt w zv zl) (hx : NatAt w xv xl) (hy : NatAt w yv yl) (hsx : Sep zv xv) (hsy : Sep zv yv) :
 Calls Tryz.prog 147 #[zv, xv, yv] w (NatRet w zv (val xl - val yl)) := by
 obtain ⟨gx, ox, cx, M, rfl, bx, hx1, hx2, hx3, hx4⟩ := hx.open_pos (by omega)
 obtain ⟨gy, oy, cy, K, rfl, by_, hy1, hy2, hy3, hy4⟩ := hy.open_pos (by omega)
 have hm := make_any zv zl xl.length w (by omega) (by omega) h
 have hgx := bx.lt
 have hgy := by_.lt
 have hxb := hx.bnd
 have hyb := hy.bnd
 have hsub := subNs_val hyx hxb hyb hle
 have hm0 : ((xl.length : Int) == 0) = false := by rw [beq_eq_false_iff_ne]; omega
 have hy0' : ((yl.length : Int) == 0) = false := by rw [beq_eq_false_iff_ne]; omega
 generalize hml : xl.length = m at *
 generalize hnl : yl.length = n at *
 have hlt : ¬ m < n := by omega
 have hnx : (n : Int) ≤ (cx : Int) := by omega
 have hny : (n : Int) ≤ (cy : Int) := by omega
 have hn0 : (0 : Int) ≤ (n : Int) := by omega
 have H_h := hid h; have H_hm := hid hm; have H_hx := hid hx; have H_hy := hid hy; have H_hsx := hid hsx; have H_hsy := hid hsy; have H_bx := hid bx; have H_by_ := hid by_; have H_hx3 := hid hx3; have H_hx4 := hid hx4; have H_hx2 := hid hx2; have H_hy3 := hid hy3; have H_hy4 := hid hy4; have H_hy2 := hid hy2; have H_hml := hid hml; have H_hnl := hid hnl; have H_hxb := hid hxb; have H_hyb := hid hyb; have H_hsub := hid hsub; have H_hle := hid hle; clear h hm hx hy hsx hsy bx by_ hx3 hx4 hx2 hy3 hy4 hy2 hml hnl hxb hyb hsub hle
 go_enter Tryz.func147, Tryz.ntmps147
 go_wp2_with (fail)
 refine H_hm.out.mono ?_
 intro e w1 hm
 obtain ⟨g, off, cap, L, rfl, hb, h1, h2, h3, h4, h5, hcap⟩ := hm.split
 clear hm
 have hnz : (n : Int) ≤ (cap : Int) := by omega
 go_wp2_with (fail)
 go_still_tail 9, (by kernel_rfl)
 change wpList _ _ _ _ _ (World.drew _)
 have b1 := hb.out.drew
 have k1 := h4.out.drew
 have H_b1 := hid b1; have H_k1 := hid k1; clear b1 k1
 generalize World.drew w1 = w2 at *
 have bx1 := H_bx.out.keep H_k1.out (fun h => h)
 have by1 := H_by_.out.keep H_k1.out (fun h => h)
 have H_bx1 := hid bx1; have H_by1 := hid by1; clear bx1 by1
 have hadd := subVV g off cap gx ox cx gy oy cy n L M K w2 (by omega) H_b1.out H_bx1.out H_by1.out (by have := h2.out; omega) (by have := H_hx2.out; omega) (by have := H_hy2.out; omega)
  (by have := h5.out.apart H_hsx.out hgx; omega) (by have := h5.out.apart H_hsy.out hgy; omega)
 have H_hadd := hid hadd; clear hadd
 go_wp2_with (fail)
 refine H_hadd.out.mono ?_
 rintro e w3 ⟨rfl, hp⟩
 have ex : seg M ox n = xl.take yl.length := by rw [H_hx3.out, H_hnl.out]; exact (seg_take (by omega)).symm
 have ey : seg K oy n = yl := H_hy3.out.symm
 have ed : seg M (ox + n) (m - n) = xl.drop yl.length := by
  rw [H_hnl.out, H_hx3.out]
  have hs := seg_split (L := M) (off := ox) (n := m) (m := n) (by omega) (by have := H_hx2.out; omega)
  rw [hs, List.drop_append_of_le_length (by rw [sgL (by have := H_hx2.out; omega)]; exact Nat.le_refl _), List.drop_eq_nil_of_le (by rw [sgL (by have := H_hx2.out; omega)]; exact Nat.le_refl _), List.nil_append]
 have hl1 : (subVs (xl.take yl.length) yl 0).1.length = n := by
  have := H_hml.out; have := H_hnl.out
  rw [subVs_length _ _ _ (by simp; omega)]; simp; omega
 have hc1 := subVs_carry (xl.take yl.length) yl 0 (by omega)
 rw [ex, ey] at hp ⊢
 have hN : subNs xl yl = (subVs (xl.take yl.length) yl 0).1 ++ (subWs (xl.drop yl.length) (subVs (xl.take yl.length) yl 0).2).1 := rfl
 have hNl := subNs_lt xl yl
 have hNn : (subNs xl yl).length = m := by
  have := H_hml.out; have := H_hnl.out
  rw [subNs_length (by omega)]; omega
 have hsub := H_hsub.out
 rw [← H_hnl.out] at hsub
 clear H_hsub
 generalize hr1 : subVs (xl.take yl.length) yl 0 = r1 at *
 obtain ⟨s1, c1⟩ := r1
 simp only at hp hl1 hc1 hN hsub
 have fin : ∀ w5, Puts .u64 g (spl L off (subNs xl yl)) w2 w5 → Calls Tryz.prog 152 #[.slice (some ⟨g, off, none⟩) m cap] w5 (NatRet w zv (val xl - val yl)) := by
  intro w5 hp5
  have hna : NatAt w5 (.slice (some ⟨g, off, none⟩) m cap) (subNs xl yl) := by
   have := NatAt.spl hcap hp5.blk (cap := cap) (by omega) h2.out h3.out hNl
   rw [hNn] at this; exact this
  refine (norm_any _ _ _ (by omega) hna).mono ?_
  rintro e w6 ⟨rv, l, rfl, h6, hnorm, hval, hown, rfl⟩
  refine ⟨rv, l, rfl, NatOp.of h5.out (H_k1.out) hp5.keep h6 (fun k hk => by have := hown k hk; simpa [Value.ownBlock] using this.symm), hnorm, ?_⟩
  rw [hval, hsub.1]
 have H_fin := hid fin; have H_hp := hid hp; have H_ex := hid ex; have H_ey := hid ey; have H_ed := hid ed; have H_hl1 := hid hl1; have H_hc1 := hid hc1; have H_hN := hid hN; have H_hNl := hid hNl; have H_hNn := hid hNn; have H_hr1 := hid hr1; have H_hsub := hid hsub; clear fin hp ex ey ed hl1 hc1 hN hNl hNn hr1 hsub
 by_cases hnm : n < m
 · go_wp2_with (fail)
   have hnx' : (n : Int) ≤ (m : Int) := by omega
   go_still_tail 7, (by kernel_rfl)
   change wpList _ _ _ _ _ (World.drew _)
   have p2 := H_hp.out.drew
   have H_p2 := hid p2; clear p2
   clear hnx'
   generalize World.drew w3 = w4 at *
   obtain ⟨M', bx4, hM', hMl, hMb⟩ : ∃ M', Blk .u64 w4 gx M' ∧ seg M' (ox + n) (m - n) = xl.drop yl.length ∧ ox + m ≤ M'.length ∧ (∀ a ∈ M', a < 18446744073709551616) := by
    have l1 := H_hl1.out; have l2 := H_hx2.out; have l3 := h2.out
    by_cases e : gx = g
    · subst e
      have eo : ox = off := by have := h5.out.apart H_hsx.out hgx; omega
      subst eo
      obtain rfl := Blk.uniq H_bx1.out H_b1.out
      refine ⟨_, H_p2.out.blk, ?_, by rw [sgl (by omega)]; omega, fun a ha => ?_⟩
      · rw [← H_ed.out]
        refine seg_ext (by rw [sgl (by omega)]; omega) (by omega) (fun j hj => ?_)
        rw [sgD (by omega), if_neg (by omega)]
      · rcases spl_mem ha with h | h
        · exact h3.out a h
        · have := subVs_lt (xl.take yl.length) yl 0; rw [H_hr1.out] at this; exact this a h
    · exact ⟨M, H_p2.out.other e H_bx1.out, H_ed.out, by omega, H_hx4.out⟩
   have hadd2 := subVW g (off + n) (cap - n) gx (ox + n) (cx - n) (m - n) c1 _ M' w4 (by omega) (by omega) H_p2.out.blk bx4 (by have := H_hl1.out; have := h2.out; rw [sgl (by omega)]; omega) (by omega) hMb (by have := H_hc1.out; omega)
    (by have := h5.out.apart H_hsx.out hgx; omega) (by omega) (by omega)
   rw [hM', spl_spl (by rw [H_hl1.out]) (by
    have := H_hl1.out; have := h2.out; have := H_hml.out; have := H_hnl.out
    rw [subWs_length, List.length_drop]; omega), H_hsub.out.2] at hadd2
   have H_hadd2 := hid hadd2; have H_bx4 := hid bx4; have H_hM' := hid hM'; have H_hMl := hid hMl; have H_hMb := hid hMb; clear hadd2 bx4 hM' hMl hMb
   go_wp2_with (fail)
   refine H_hadd2.out.mono ?_
   rintro e w5 ⟨rfl, hp5⟩
   have p5 := H_p2.out.trans hp5
   rw [← H_hN.out] at p5
   have H_p5 := hid p5; have H_hp5 := hid hp5; clear p5 hp5
   go_wp2_with (fail)
   refine (H_fin.out _ H_p5.out).mono ?_
   intro e w7 h7
   obtain ⟨rv, rfl, h7⟩ := h7.own
   have H_h7 := hid h7; clear h7
   go_wp2
   go_ret
   exact H_h7.out
 · have p5 := H_hp.out
   have hd : xl.drop yl.length = [] := List.drop_eq_nil_of_le (by have := H_hml.out; have := H_hnl.out; omega)
   have hN := H_hN.out
   have hs2 := H_hsub.out.2
   rw [hd] at hN hs2
   simp only [subWs, List.append_nil] at hN hs2
   rw [← hN] at p5
   clear hd
   subst hs2
   have H_p5 := hid p5; have H_hN := hid hN; clear p5 hN
   go_wp2_with (fail)
   refine (H_fin.out _ H_p5.out).mono ?_
   intro e w7 h7
   obtain ⟨rv, rfl, h7⟩ := h7.own
   have H_h7 := hid h7; clear h7
   go_wp2
   go_ret
   exact H_h7.out

theorem Norm.len_le_len {l m : List Nat} (hm : Norm m) (hl : ∀ a ∈ l, a < 18446744073709551616) (h : val m ≤ val l) : m.length ≤ l.length := by
 rcases Nat.lt_or_ge l.length m.length with h1 | h1
 · have := val_cmp_len hm hl h1; omega
 · exact h1

theorem nat_sub (zv xv yv : Value) (zl xl yl : List Nat) (w : World) (hn : xl.length < 1000000) (hle : val yl ≤ val xl) (h : NatAt w zv zl) (hx : NatAt w xv xl) (hy : NatAt w yv yl) (hnx : Norm xl) (hny : Norm yl) (hsx : Sep zv xv) (hsy : Sep zv yv) :
 Calls Tryz.prog 147 #[zv, xv, yv] w (NatRet w zv (val xl - val yl)) := by
 have hyx := hny.len_le_len hx.bnd hle
 by_cases hy0 : yl.length = 0
 · obtain ⟨a, c, hv⟩ := h.form
   obtain ⟨ax, cx, hxv⟩ := hx.form
   obtain ⟨ay, cy, hyv⟩ := hy.form
   have hyl : yl = [] := List.eq_nil_of_length_eq_zero hy0
   have hr := NatRet.empty h hv
   have hset := set_any zv xv zl xl w (by omega) h hx hsx
   rw [hyl]
   have e0 : val xl - val [] = val xl := rfl
   rw [e0]
   rw [hy0] at hyv
   by_cases hx0 : xl.length = 0
   · have hxl : xl = [] := List.eq_nil_of_length_eq_zero hx0
     rw [hxl]
     rw [hx0] at hxv
     subst hxv hyv
     generalize zl.length = n at *
     subst hv
     have H_h := hid h; have H_hx := hid hx; have H_hy := hid hy; have H_hsx := hid hsx; have H_hsy := hid hsy; have H_hset := hid hset; have H_hr := hid hr; have H_hnx := hid hnx; have H_hxl := hid hxl; have H_hyl := hid hyl; have H_hle := hid hle; have H_hny := hid hny; clear h hx hy hsx hsy hset hr hnx hxl hyl hle hny
     clear hyx hn hy0 hx0 e0
     go_enter Tryz.func147, Tryz.ntmps147
     go_wp2
     go_ret
     exact H_hr.out
   · have hm0 : ((xl.length : Int) == 0) = false := by rw [beq_eq_false_iff_ne]; omega
     generalize hml : xl.length = m at *
     have hpos : 0 < m := by omega
     subst hxv hyv
     clear hv hr
     have H_h := hid h; have H_hx := hid hx; have H_hy := hid hy; have H_hsx := hid hsx; have H_hsy := hid hsy; have H_hset := hid hset; have H_hnx := hid hnx; have H_hyl := hid hyl; have H_hml := hid hml; have H_hle := hid hle; have H_hny := hid hny; have H_e0 := hid e0; clear h hx hy hsx hsy hset hnx hyl hml hle hny e0
     clear hyx hy0 hx0
     go_enter Tryz.func147, Tryz.ntmps147
     go_wp2_with (fail)
     refine H_hset.out.mono ?_
     rintro e w1 ⟨rv, rfl, hop⟩
     have H_hop := hid hop; clear hop
     go_wp2
     go_ret
     exact ⟨rv, xl, rfl, H_hop.out, H_hnx.out, rfl⟩
 · exact sub_pos zv xv yv zl xl yl w hn (by omega) hyx hle h hx hy hsx hsy

theorem val_at {l : List Nat} {k : Nat} (h : k < l.length) : val l = val (l.take k) + wpow k * (l.getD k 0 + 18446744073709551616 * val (l.drop (k + 1))) := by
 have e := val_append (l.take k) (l.drop k)
 rw [List.take_append_drop] at e
 rw [e, List.drop_eq_getElem_cons h]
 simp [val, List.getD, h, Nat.min_eq_left (Nat.le_of_lt h)]

theorem val_lt_at {xs ys : List Nat} {k : Nat} (hx : ∀ a ∈ xs, a < 18446744073709551616) (hk : k < xs.length) (hl : xs.length = ys.length) (hd : ∀ j, k < j → j < xs.length → xs.getD j 0 = ys.getD j 0) (h : xs.getD k 0 < ys.getD k 0) : val xs < val ys := by
 rw [val_at hk, val_at (l := ys) (k := k) (by omega)]
 have e : xs.drop (k + 1) = ys.drop (k + 1) := by
  apply ext_getD
  · simp [hl]
  · intro i hi
    have := hd (k + 1 + i) (by omega) (by simp at hi; omega)
    simpa [List.getD, List.getElem?_drop] using this
 rw [e]
 have h1 := val_lt (xs := xs.take k) (fun a ha => hx a (List.mem_of_mem_take ha))
 rw [List.length_take, Nat.min_eq_left (Nat.le_of_lt hk)] at h1
 have h2 : wpow k * (xs.getD k 0 + 18446744073709551616 * val (ys.drop (k + 1))) + wpow k ≤ wpow k * (ys.getD k 0 + 18446744073709551616 * val (ys.drop (k + 1))) := by
  rw [← Nat.mul_succ]; exact Nat.mul_le_mul_left _ (by omega)
 omega

theorem cmp_at_lt {xs ys : List Nat} (hx : ∀ a ∈ xs, a < 18446744073709551616) (hl : xs.length = ys.length) {k : Nat} (hk : k < xs.length) (hd : ∀ j, k < j → j < xs.length → xs.getD j 0 = ys.getD j 0) (h : xs.getD k 0 < ys.getD k 0) : cmpN (val xs) (val ys) = -1 :=
 cmpN_lt (val_lt_at hx hk hl hd h)

theorem cmp_at_gt {xs ys : List Nat} (hy : ∀ a ∈ ys, a < 18446744073709551616) (hl : xs.length = ys.length) {k : Nat} (hk : k < xs.length) (hd : ∀ j, k < j → j < xs.length → xs.getD j 0 = ys.getD j 0) (h : ys.getD k 0 < xs.getD k 0) : cmpN (val xs) (val ys) = 1 :=
 cmpN_gt (val_lt_at hy (by omega) hl.symm (fun j h1 h2 => (hd j h1 (by omega)).symm) h)

theorem cmp_at_eq {xs ys : List Nat} (hl : xs.length = ys.length) (hd : ∀ j, 0 < j → j < xs.length → xs.getD j 0 = ys.getD j 0) (h : xs.getD 0 0 = ys.getD 0 0) : cmpN (val xs) (val ys) = 0 := by
 have : xs = ys := ext_getD hl (fun i hi => by
  rcases Nat.eq_zero_or_pos i with rfl | h0
  · exact h
  · exact hd i h0 hi)
 rw [this]; exact cmpN_eq _

theorem cmp_same (gx ox cx gy oy cy m : Nat) (M K : List Nat) (w : World) (hm : 0 < m) (hm2 : m ≤ 1000000)
 (bx : Blk .u64 w gx M) (by_ : Blk .u64 w gy K) (hx2 : ox + m ≤ M.length) (hy2 : oy + m ≤ K.length) (hxb : ∀ a ∈ M, a < 18446744073709551616) (hyb : ∀ a ∈ K, a < 18446744073709551616) :
 Calls Tryz.prog 146 #[.slice (some ⟨gx, ox, none⟩) m cx, .slice (some ⟨gy, oy, none⟩) m cy] w (Quiet w (.int .i64 (cmpN (val (seg M ox m)) (val (seg K oy m))))) := by
 have hm0 : ((m : Int) == 0) = false := by rw [beq_eq_false_iff_ne]; omega
 have hlx := sgL hx2
 have hly := sgL hy2
 have hbx : ∀ a ∈ seg M ox m, a < 18446744073709551616 := fun a ha => hxb a (seg_mem ha)
 have hby : ∀ a ∈ seg K oy m, a < 18446744073709551616 := fun a ha => hyb a (seg_mem ha)
 have hgx : ∀ j, j < m → (seg M ox m).getD j 0 = M.getD (ox + j) 0 := fun j hj => seg_getD hj
 have hgy : ∀ j, j < m → (seg K oy m).getD j 0 = K.getD (oy + j) 0 := fun j hj => seg_getD hj
 generalize seg M ox m = xs at *
 generalize seg K oy m = ys at *
 have H_bx := hid bx; have H_by_ := hid by_; have H_hx2 := hid hx2; have H_hy2 := hid hy2; have H_hxb := hid hxb; have H_hyb := hid hyb; have H_hlx := hid hlx; have H_hly := hid hly; have H_hbx := hid hbx; have H_hby := hid hby; have H_hgx := hid hgx; have H_hgy := hid hgy; clear bx by_ hx2 hy2 hxb hyb hlx hly hbx hby hgx hgy
 go_enter Tryz.func146, Tryz.ntmps146
 go_wp2_with (fail)
 go_loopw [7] (fun i wr => ∃ k : Nat, k < m ∧ i = .int .i64 k ∧ Hid (∀ j, k < j → j < m → xs.getD j 0 = ys.getD j 0) ∧ ∃ nd, wr = w.drewN nd) (fun i _ => (intOf i).toNat)
 case atStart => exact ⟨m - 1, by omega, by simp; omega, fun j h1 h2 => by omega, 0, rfl⟩
 case round =>
  obtain ⟨k, hk, rfl, hag, nd, rfl⟩ := hrel
  have hcx := H_bx.out.cell (o := ox + k) (by have := H_hx2.out; omega)
  have hcy := H_by_.out.cell (o := oy + k) (by have := H_hy2.out; omega)
  have hgx := H_hgx.out k hk
  have hgy := H_hgy.out k hk
  generalize hx : M.getD (ox + k) 0 = x at *
  generalize hy : K.getD (oy + k) 0 = y at *
  have H_hgx := hid hgx; have H_hgy := hid hgy; have H_hx := hid hx; have H_hy := hid hy; clear hgx hgy hx hy
  have hk0 : (0 : Int) ≤ (k : Int) := by omega
  have hkm : (k : Int) < (m : Int) := by omega
  rcases Nat.lt_trichotomy x y with hlt | heq | hgt
  · have res := cmp_at_lt H_hbx.out (by rw [H_hlx.out, H_hly.out]) (k := k) (by rw [H_hlx.out]; exact hk) (fun j h1 h2 => hag.out j h1 (by rw [H_hlx.out] at h2; exact h2)) (by rw [H_hgx.out, H_hgy.out]; exact hlt)
    have t1 : ((x : Int) == (y : Int)) = false := by rw [beq_eq_false_iff_ne]; omega
    have t2 : decide (x < y) = true := by simpa using hlt
    have H_res := hid res; clear res
    by_cases hkz : 0 < k
    · have hkz' : decide ((0 : Int) < (k : Int)) = true := by simp; omega
      go_wp2_with (go_quiet (fail))
      go_ret
      exact ⟨by rw [H_res.out]; rfl, _, by simp only [World.drewN_drewN]; rfl⟩
    · have hkz' : decide ((0 : Int) < (k : Int)) = false := by simp; omega
      go_wp2_with (go_quiet (fail))
      go_ret
      exact ⟨by rw [H_res.out]; rfl, _, by simp only [World.drewN_drewN]; rfl⟩
  · subst heq
    have t1 : ((x : Int) == (x : Int)) = true := by simp
    by_cases hkz : 0 < k
    · have hkz' : decide ((0 : Int) < (k : Int)) = true := by simp; omega
      go_wp2_with (go_quiet (fail))
      go_roundw
      case rel =>
       refine ⟨k - 1, by omega, by simp; omega, fun j h1 h2 => ?_, _, rfl⟩
       by_cases e : j = k
       · subst e; rw [H_hgx.out, H_hgy.out]
       · exact hag.out j (by omega) h2
      case measure => simp [intOf]; omega
    · have hkz' : decide ((0 : Int) < (k : Int)) = false := by simp; omega
      have hk00 : k = 0 := by omega
      have res := cmp_at_eq (xs := xs) (ys := ys) (by rw [H_hlx.out, H_hly.out]) (fun j h1 h2 => hag.out j (by omega) (by rw [H_hlx.out] at h2; exact h2)) (by have h1 := H_hgx.out; have h2 := H_hgy.out; rw [hk00] at h1 h2; rw [h1, h2])
      have t2 : decide (x < x) = false := by simp
      have H_res := hid res; have H_hk00 := hid hk00; clear res hk00
      go_wp2_with (go_quiet (fail))
      go_ret
      exact ⟨by rw [H_res.out]; rfl, _, by simp only [World.drewN_drewN]; rfl⟩
  · have res := cmp_at_gt H_hby.out (by rw [H_hlx.out, H_hly.out]) (k := k) (by rw [H_hlx.out]; exact hk) (fun j h1 h2 => hag.out j h1 (by rw [H_hlx.out] at h2; exact h2)) (by rw [H_hgx.out, H_hgy.out]; exact hgt)
    have t1 : ((x : Int) == (y : Int)) = false := by rw [beq_eq_false_iff_ne]; omega
    have t2 : decide (x < y) = false := by simp; omega
    have t3 : decide (y < x) = true := by simpa using hgt
    have H_res := hid res; clear res
    by_cases hkz : 0 < k
    · have hkz' : decide ((0 : Int) < (k : Int)) = true := by simp; omega
      go_wp2_with (go_quiet (fail))
      go_ret
      exact ⟨by rw [H_res.out]; rfl, _, by simp only [World.drewN_drewN]; rfl⟩
    · have hkz' : decide ((0 : Int) < (k : Int)) = false := by simp; omega
      go_wp2_with (go_quiet (fail))
      go_ret
      exact ⟨by rw [H_res.out]; rfl, _, by simp only [World.drewN_drewN]; rfl⟩

theorem nat_cmp (xv yv : Value) (xl yl : List Nat) (w : World) (hn : xl.length ≤ 1000000) (hn' : yl.length ≤ 1000000) (hx : NatAt w xv xl) (hy : NatAt w yv yl) (hnx : Norm xl) (hny : Norm yl) :
 Calls Tryz.prog 146 #[xv, yv] w (Quiet w (.int .i64 (cmpN (val xl) (val yl)))) := by
 rcases Nat.lt_trichotomy xl.length yl.length with hlt | heq | hgt
 · rw [cmpN_lt (val_cmp_len hny hx.bnd hlt)]
   obtain ⟨ax, cx, hxv⟩ := hx.form
   obtain ⟨ay, cy, hyv⟩ := hy.form
   generalize xl.length = m at *
   generalize yl.length = n at *
   subst hxv hyv
   have H_hx := hid hx; have H_hy := hid hy; have H_hnx := hid hnx; have H_hny := hid hny; clear hx hy hnx hny
   have t1 : ((m : Int) == (n : Int)) = false := by rw [beq_eq_false_iff_ne]; omega
   go_enter Tryz.func146, Tryz.ntmps146
   go_wp2
   go_ret
   exact ⟨rfl, 0, rfl⟩
 · by_cases h0 : xl.length = 0
   · have h1 : yl.length = 0 := by omega
     obtain rfl : xl = [] := List.eq_nil_of_length_eq_zero h0
     obtain rfl : yl = [] := List.eq_nil_of_length_eq_zero h1
     obtain ⟨ax, cx, rfl⟩ := hx.form
     obtain ⟨ay, cy, rfl⟩ := hy.form
     rw [cmpN_eq]
     clear hx hy hnx hny heq h0 h1 hn hn'
     go_enter Tryz.func146, Tryz.ntmps146
     go_wp2
     go_ret
     exact ⟨rfl, 0, rfl⟩
   · obtain ⟨gx, ox, cx, M, rfl, bx, hx1, hx2, hx3, hx4⟩ := hx.open_pos (by omega)
     obtain ⟨gy, oy, cy, K, rfl, by_, hy1, hy2, hy3, hy4⟩ := hy.open_pos (by omega)
     have := cmp_same gx ox cx gy oy cy xl.length M K w (by omega) hn bx by_ (by omega) (by omega) hx4 hy4
     rw [heq] at this hx3 ⊢
     rw [← hx3, ← hy3] at this
     exact this
 · rw [cmpN_gt (val_cmp_len hnx hy.bnd hgt)]
   obtain ⟨ax, cx, hxv⟩ := hx.form
   obtain ⟨ay, cy, hyv⟩ := hy.form
   generalize xl.length = m at *
   generalize yl.length = n at *
   subst hxv hyv
   have H_hx := hid hx; have H_hy := hid hy; have H_hnx := hid hnx; have H_hny := hid hny; clear hx hy hnx hny
   have t1 : ((m : Int) == (n : Int)) = false := by rw [beq_eq_false_iff_ne]; omega
   go_enter Tryz.func146, Tryz.ntmps146
   go_wp2
   go_ret
   exact ⟨rfl, 0, rfl⟩

end Go.Proofs.YtllencgncinphaaGreatDoor
