/- big: nat.lsh by 1 of any number in place; Int.Lsh, bint.dbl. -/
import Derived.Test.YtmgidnjpkbgmgabGreatDoorKB38
import Derived.Test.YtmgidnjpkbgmgabGreatDoorKB77
import Derived.Test.YtmgidnjpkbgmgabGreatDoorKB78
namespace Go.Proofs.YtmgidnjpkbgmgabGreatDoor
open Go.RowKit

set_option maxRecDepth 20000 in
set_option maxHeartbeats 1000000 in
theorem lsh_more (zv : Value) (zl : List Nat) (w : World) (hn : 2 ≤ zl.length) (hn2 : zl.length ≤ 1000) (h : NatAt w zv zl) :
    Calls Tryz.prog 200 #[zv, zv, .int .u64 1] w (NatRet w zv (2 * val zl)) := by
  obtain ⟨gx, ox, cx, M, hzv, bx, hx1, hx2, hx3, hx4⟩ := h.open_pos (by omega)
  have hm := make_any zv zl (zl.length + 1) w (by omega) (by omega) h
  have hgx := bx.lt
  have hbnd := h.bnd
  have hsv := shlL_val (s := 1) (by omega) zl 0
  generalize hN : zl.length = N at *
  obtain ⟨N1, hN1⟩ : ∃ a, a = N + 1 := ⟨_, rfl⟩
  have iN1 : (N : Int) + 1 = (N1 : Int) := by omega
  have wN1 : IntKind.i64.wrap (N1 : Int) = (N1 : Int) := by rw [IntKind.wrap_i64]; omega
  have wN : IntKind.i64.wrap (N : Int) = (N : Int) := by rw [IntKind.wrap_i64]; omega
  have lN : (N : Int) < (N1 : Int) := by omega
  have t0 : ((N : Int) == 0) = false := by rw [beq_eq_false_iff_ne]; omega
  rw [← hN1] at hm
  obtain ⟨cc, hcc⟩ : ∃ c, c = lastW zl 0 / 2 ^ (64 - 1) := ⟨_, rfl⟩
  have hcb : cc < 18446744073709551616 := by
    rw [hcc]
    refine Nat.lt_of_le_of_lt (Nat.div_le_self _ _) ?_
    rw [lastW_getD zl 0 (by omega)]
    exact getD_lt hbnd pos64 _
  rw [← hcc, Nat.zero_div, Nat.add_zero] at hsv
  have hsl : (shlL zl 0 1).length = N := by rw [shlL_length, hN]
  have hsb := shlL_lt (s := 1) (by omega) zl 0 hbnd (by omega)
  obtain ⟨us, hus⟩ : ∃ us, us = shlL zl 0 1 := ⟨_, rfl⟩
  rw [← hus] at hsv hsl hsb
  subst hzv
  have H_h := Lib.hid h; clear h
  have H_hm := Lib.hid hm; clear hm
  have H_bx := Lib.hid bx; clear bx
  have H_hx1 := Lib.hid hx1; clear hx1
  have H_hx2 := Lib.hid hx2; clear hx2
  have H_hx3 := Lib.hid hx3; clear hx3
  have H_hx4 := Lib.hid hx4; clear hx4
  have H_hgx := Lib.hid hgx; clear hgx
  have H_hbnd := Lib.hid hbnd; clear hbnd
  have H_hsv := Lib.hid hsv; clear hsv
  have H_hN := Lib.hid hN; clear hN
  have H_hN1 := Lib.hid hN1; clear hN1
  have H_hn := Lib.hid hn; clear hn
  have H_hn2 := Lib.hid hn2; clear hn2
  have H_hcc := Lib.hid hcc; clear hcc
  have H_hcb := Lib.hid hcb; clear hcb
  have H_hsl := Lib.hid hsl; clear hsl
  have H_hsb := Lib.hid hsb; clear hsb
  have H_hus := Lib.hid hus; clear hus
  go_enter Tryz.func200, Tryz.ntmps200
  go_wp2_with (fail)
  refine H_hm.out.mono ?_
  intro e w1 hm
  obtain ⟨g, off, cap, L, rfl, hb, h1, h2, h3, h4, h5, hcap⟩ := hm.split
  clear hm
  have hal : gx ≠ g ∨ ox = off := by
    rcases h5.out with ⟨n0, c0, hq⟩ | hq
    · simp only [Value.slice.injEq, Option.some.injEq, Addr.mk.injEq] at hq
      exact .inr hq.1.2.1
    · have := H_hgx.out; exact .inl (by omega)
  have hl := lshVU_any g off cap gx ox cx N 1 L M w1 (by have := H_hn.out; omega) (by have := H_hn2.out; omega) (by omega) (by omega) hb.out (H_bx.out.keep h4.out (fun h => h)) (by have := h2.out; have := H_hN1.out; omega) (by have := H_hx2.out; have := H_hx1.out; omega) H_hx4.out hal
  rw [show seg M ox N = zl from H_hx3.out.symm, ← H_hcc.out, ← H_hus.out] at hl
  have lNc : (N : Int) ≤ (cap : Int) := by have := h1; have := H_hN1.out; omega
  have H_hl := Lib.hid hl; clear hl
  go_wp2_with (fail)
  refine H_hl.out.mono ?_
  rintro e w2 ⟨rfl, hp⟩
  obtain ⟨k2, b2⟩ := hp.out
  have hlen2 : (spl L off us).length = L.length := spl_length (by have := h2.out; have := H_hsl.out; have := H_hN1.out; omega)
  have cc1 := b2.cell (o := off + N) (by have := h2.out; have := H_hN1.out; rw [hlen2]; omega)
  have cc2 := b2.frozen (off + N)
  have p6 := (Puts.refl b2).set (off + N) cc
  rw [spl_set (by rw [H_hsl.out]) (by have := h2.out; have := H_hN1.out; omega)] at p6
  generalize (spl L off us).getD (off + N) 0 = z9 at *
  clear hp hlen2
  have H_k2 := Lib.hid k2; clear k2
  have H_b2 := Lib.hid b2; clear b2
  have H_p6 := Lib.hid p6; clear p6
  go_wp2_with (refine wpList_clear_none (o := ⟨none, _, _, _, _, _⟩) rfl (.tmp 68) 134 rfl 164 Tryz.underlying134 _ _ (by rfl) ?_)
  generalize w2.setCell ⟨g, off + N, none⟩ (.int .u64 (cc : Int)) = w3 at *
  have hna : NatAt w3 (.slice (some ⟨g, off, none⟩) N1 cap) (us ++ [cc]) := by
    have := NatAt.spl hcap H_p6.out.blk (cap := cap) (by have := H_hsl.out; have := H_hN1.out; simp; omega) (by have := h2.out; omega) h3.out (fun a ha => by
      rcases List.mem_append.1 ha with h | h
      · exact H_hsb.out a h
      · rw [List.mem_singleton.1 h]; exact H_hcb.out)
    rw [show (us ++ [cc]).length = N1 by have := H_hsl.out; have := H_hN1.out; simp; omega] at this
    exact this
  have hno := norm_any _ _ _ (by have := H_hsl.out; have := H_hn2.out; simp; omega) hna
  have hvv : val (us ++ [cc]) = 2 * val zl := by
    rw [val_snoc, H_hsl.out]
    have := H_hsv.out
    omega
  rw [hvv] at hno
  clear hvv
  have H_hna := Lib.hid hna; clear hna
  have H_hno := Lib.hid hno; clear hno
  refine H_hno.out.mono ?_
  rintro e w7 ⟨rv, l, rfl, h6, hnorm, hval, hown, rfl⟩
  have H_h6 := Lib.hid h6; clear h6
  have H_hnorm := Lib.hid hnorm; clear hnorm
  have H_hval := Lib.hid hval; clear hval
  have H_hown := Lib.hid hown; clear hown
  go_wp2
  go_ret
  exact ⟨rv, l, rfl, NatOp.of h5.out h4.out (H_k2.out.trans H_p6.out.keep (fun _ _ h => h) (fun _ _ h => h)) H_h6.out (fun k hk => by have := H_hown.out k hk; simpa [Value.ownBlock] using this.symm), H_hnorm.out, H_hval.out⟩

theorem lsh_all (zv : Value) (zl : List Nat) (w : World) (hn2 : zl.length ≤ 1000) (h : NatAt w zv zl) :
    Calls Tryz.prog 200 #[zv, zv, .int .u64 1] w (NatRet w zv (2 * val zl)) := by
  rcases Nat.lt_or_ge 1 zl.length with h1 | h1
  · exact lsh_more zv zl w h1 hn2 h
  · exact lsh_word zv zv zl zl w h1 h h (.inl rfl)

set_option maxRecDepth 20000 in
set_option maxHeartbeats 2000000 in
theorem Lsh_all (b n : Nat) (vz : Value) (w : World) (hn : n < wpow 39) (hz : BI w b vz n) :
    Calls Tryz.prog 176 #[.pointer (some ⟨b, 0, none⟩), .pointer (some ⟨b, 0, none⟩), .int .u64 1] w (IntRet w b 0 vz ((2 * n : Nat) : Int)) := by
  obtain ⟨lz, hz, rfl⟩ := hz
  have hl : lz.length ≤ 39 := hz.norm.len_le hn
  have hc := lsh_all vz lz w.drew (by omega) hz.nat.drew
  have cz1 := hz.str.c1
  rw [Nat.zero_add] at cz1
  have nz : ¬ (vz.ownBlock = some b) := fun e => IntIs.ne hz.str hz.nat e rfl
  clear hn hl
  have H_hc := Lib.hid hc; clear hc
  have H_hz := Lib.hid hz; clear hz
  have H_nz := Lib.hid nz; clear nz
  go_enter Tryz.func176, Tryz.ntmps176
  go_wp2_with (fail)
  refine wp_region_E (S := (fun (w' : World) => w'.cell? ⟨b, 1, none⟩ = some vz)) 13 (by kernel_rfl) (by exact cz1) (fun hHeld => ?_)
  refine wpAnyE_takeP (i := 0) (v := ?v0_1) rfl (by kernel_rfl) (fun _ _ _ h => h) ⟨by rfl, ?y0_1⟩ (by assumption) ?r0_1
  case y0_1 => (intro w; go_simp; try with_reducible rfl)
  try simp only [Act.put, yA, yB, yD, yE, yF]
  refine wpAnyE_takeP (i := 1) (v := ?v1_1) rfl (by kernel_rfl) (fun _ _ _ h => h) ⟨by rfl, ?y1_1⟩ (by assumption) ?r1_1
  case y1_1 => (intro w; go_simp; try with_reducible rfl)
  try simp only [Act.put, yA, yB, yC, yD, yE, yF]
  refine wpAnyE_takeP (i := 2) (v := ?v2_1) rfl (by kernel_rfl) (fun _ _ _ h => h) ⟨by rfl, ?y2_1⟩ (by assumption) ?r2_1
  case y2_1 => (intro w; go_simp; try with_reducible rfl)
  try simp only [Act.put, yA, yB, yC, yD, yE, yF]
  refine wpAnyE_takeP (i := 3) (v := ?v3_1) rfl (by kernel_rfl) (fun _ _ _ h => h) ⟨by rfl, ?y3_1⟩ (by assumption) ?r3_1
  case y3_1 => (intro w; go_simp; try with_reducible rfl)
  try simp only [Act.put, yA, yB, yC, yD, yE, yF]
  refine wpAnyE_takeL (i := 4) (c := 10) (v := ?v4_1) rfl (by kernel_rfl) (fun _ _ _ h => h) ⟨by rfl, ?y4_1⟩ (by assumption) ?r4_1
  case y4_1 => (intro w hSw; go_split_ands; go_simp; try with_reducible rfl)
  try simp only [Act.put, yA, yB, yC, yD, yE, yF]
  refine wpAnyE_takeP (i := 5) (v := ?v5_1) rfl (by kernel_rfl) (fun _ _ _ h => h) ⟨by rfl, ?y5_1⟩ (by assumption) ?r5_1
  case y5_1 => (intro w; go_simp; try with_reducible rfl)
  try simp only [Act.put, yA, yB, yC, yD, yE, yF]
  refine wpAnyE_takeP (i := 6) (v := ?v6_1) rfl (by kernel_rfl) (fun _ _ _ h => h) ⟨by rfl, ?y6_1⟩ (by assumption) ?r6_1
  case y6_1 => (intro w; go_simp; try with_reducible rfl)
  try simp only [Act.put, yA, yB, yC, yD, yE, yF]
  refine wpAnyE_takeP (i := 7) (v := ?v7_1) rfl (by kernel_rfl) (fun _ _ _ h => h) ⟨by rfl, ?y7_1⟩ (by assumption) ?r7_1
  case y7_1 => (intro w; go_simp; try with_reducible rfl)
  try simp only [Act.put, yA, yB, yC, yD, yE, yF]
  refine wpAnyE_takeL (i := 8) (c := 10) (v := ?v8_1) rfl (by kernel_rfl) (fun _ _ _ h => h) ⟨by rfl, ?y8_1⟩ (by assumption) ?r8_1
  case y8_1 => (intro w hSw; go_split_ands; go_simp; try with_reducible rfl)
  try simp only [Act.put, yA, yB, yC, yD, yE, yF]
  refine wpAnyE_takeP (i := 9) (v := ?v9_1) rfl (by kernel_rfl) (fun _ _ _ h => h) ⟨by rfl, ?y9_1⟩ (by assumption) ?r9_1
  case y9_1 => (intro w; go_simp; try with_reducible rfl)
  try simp only [Act.put, yA, yB, yC, yD, yE, yF]
  refine wpAnyE_one (i := 10) rfl (by kernel_rfl) (fun K hK => ?_)
  go_simp
  refine H_hc.out.mono ?_; rintro e w1 hr; obtain ⟨rv, l, rfl, hop, hnorm, hval⟩ := hr; have hop := hop.of_drew; have kz := (H_hz.out.str.keep hop.keep H_nz.out).c1; have kf := (H_hz.out.str.keep hop.keep H_nz.out).f1; have kf0 := (H_hz.out.str.keep hop.keep H_nz.out).f0; have kz0 := (H_hz.out.str.keep hop.keep H_nz.out).c0; rw [Nat.zero_add] at kz kf; obtain ⟨ra, rc, hrv⟩ := hop.nat.form; generalize hll : l.length = nl at *; subst hrv; have H_hop := Lib.hid hop; have H_hnorm := Lib.hid hnorm; have H_hval := Lib.hid hval; have H_hll := Lib.hid hll; clear hop hnorm hval hll
  go_wp2_with (fail)
  have hHeldB : ((fun (w' : World) => w'.cell? ⟨b, 1, none⟩ = some vz)) _ := kz
  refine hK.out _ _ (fun _ => hHeldB) ?_
  clear hK K
  try simp only [Act.put, yA, yB, yC, yD, yE, yF]
  refine wpAnyE_takeP (i := 11) (v := ?v11_1) rfl (by kernel_rfl) (fun _ _ _ h => h) ⟨by rfl, ?y11_1⟩ (by assumption) ?r11_1
  case y11_1 => (intro w; go_simp; try with_reducible rfl)
  try simp only [Act.put, yA, yB, yC, yD, yE, yF]
  refine wpAnyE_takeP (i := 12) (v := ?v12_1) rfl (by kernel_rfl) (fun _ _ _ h => h) ⟨by rfl, ?y12_1⟩ (by assumption) ?r12_1
  case y12_1 => (intro w; go_simp; try with_reducible rfl)
  try simp only [Act.put, yA, yB, yC, yD, yE, yF]
  refine wpAnyE_one (i := 13) rfl (by kernel_rfl) (fun K hK => ?_)
  go_simp
  refine hK.out _ _ (fun h => Bool.noConfusion (show true = false from h)) ?_
  clear hK K
  try simp only [Act.put, yA, yB, yC, yD, yE, yF]
  refine wpAnyE_done (by kernel_rfl) ?_ _
  clear hHeldB
  have kz0' : (w1.setCell ⟨b, 1, none⟩ (.slice ra nl rc)).cell? ⟨b, 0, none⟩ = some (.bool false) := (cell?_setCell_ne (.inr (by simp))).trans kz0
  have kf0' : (w1.setCell ⟨b, 1, none⟩ (.slice ra nl rc)).frozen? ⟨b, 0, none⟩ = false := (frozen?_setCell' _ _ _ _).trans kf0
  clear cz1 kz kf kf0 kz0
  go_wp2_with (fail)
  go_ret
  exact ⟨rfl, IntIs.made H_hz.out.str H_hz.out.nat H_hop.out H_hnorm.out false (fun _ => rfl) _ (by simp [ival, H_hval.out]) rfl⟩

theorem dbl_all (g n : Nat) (v : Value) (w : World) (hn : n < wpow 39) (hz : BI w g v n) :
    Calls Tryz.prog 151 #[.pointer (some ⟨g, 0, none⟩), .pointer (some ⟨g, 0, none⟩)] w (fun e w' => e = .returned (.tuple #[]) ∧ BSet w g v (2 * n) w') := by
  have h := Lsh_all g n v w hn hz
  clear hn hz
  generalize 2 * n = r at *
  have H_h := Lib.hid h; clear h
  go_enter Tryz.func151, Tryz.ntmps151
  go_wp2_with (fail)
  refine H_h.out.mono ?_
  intro e w2 hr
  obtain ⟨rfl, hb⟩ := hr.bset
  clear hr
  have H_hb := Lib.hid hb; clear hb
  go_wp2
  go_end0
  exact ⟨rfl, H_hb.out⟩

end Go.Proofs.YtmgidnjpkbgmgabGreatDoor
