/- big: nat.lsh by 1 of any number in place; Int.Lsh, bint.dbl. -/
import Derived.Defers
import Derived.Test.YtjjolcjeiogdmabGreatDoorK14
import Derived.Test.YtjjolcjeiogdmabGreatDoorK18
import Derived.Test.YtjjolcjeiogdmabGreatDoorK20
import Derived.Test.YtjjolcjeiogdmabGreatDoorK25
import Derived.Test.YtjjolcjeiogdmabGreatDoorK28
namespace Go.Proofs.YtjjolcjeiogdmabGreatDoor
open Go.RowKit

set_option maxRecDepth 20000 in
set_option maxHeartbeats 1000000 in
theorem lsh_more (zv : Value) (zl : List Nat) (w : World) (hn : 2 ≤ zl.length) (hn2 : zl.length ≤ 1000) (h : NatAt w zv zl) :
    Calls Tryz.prog 116 #[zv, zv, .int .u64 1] w (NatRet w zv (2 * val zl)) := by
  obtain ⟨gx, ox, cx, M, hzv, bx, hx1, hx2, hx3, hx4⟩ := h.open_pos (by omega)
  have hm := make_any zv zl (zl.length + 1) w (by omega) (by omega) h
  have hgx := bx.lt
  have hbnd := h.bnd
  have hsv := shlL_val (s := 1) (by omega) zl 0
  generalize hN : zl.length = N at *
  obtain ⟨N1, hN1⟩ : ∃ a, a = N + 1 := ⟨_, rfl⟩
  have iN1 : (N : Int) + 1 = (N1 : Int) := by omega
  have wN1 : IntKind.i64.wrap (N1 : Int) = (N1 : Int) := by rw [IntKind.wrap_i64]; omega
  have wN : IntKind.i64.wrap (N : Int) = (N : Int) := by rw [IntKind.wrap_i64]; omega
  have lN : (N : Int) < (N1 : Int) := by omega
  have t0 : ((N : Int) == 0) = false := by rw [beq_eq_false_iff_ne]; omega
  rw [← hN1] at hm
  obtain ⟨cc, hcc⟩ : ∃ c, c = lastW zl 0 / 2 ^ (64 - 1) := ⟨_, rfl⟩
  have hcb : cc < 18446744073709551616 := by
    rw [hcc]
    refine Nat.lt_of_le_of_lt (Nat.div_le_self _ _) ?_
    rw [lastW_getD zl 0 (by omega)]
    exact getD_lt hbnd pos64 _
  rw [← hcc, Nat.zero_div, Nat.add_zero] at hsv
  have hsl : (shlL zl 0 1).length = N := by rw [shlL_length, hN]
  have hsb := shlL_lt (s := 1) (by omega) zl 0 hbnd (by omega)
  obtain ⟨us, hus⟩ : ∃ us, us = shlL zl 0 1 := ⟨_, rfl⟩
  rw [← hus] at hsv hsl hsb
  subst hzv
  have H_h := Lib.hid h; clear h
  have H_hm := Lib.hid hm; clear hm
  have H_bx := Lib.hid bx; clear bx
  have H_hx1 := Lib.hid hx1; clear hx1
  have H_hx2 := Lib.hid hx2; clear hx2
  have H_hx3 := Lib.hid hx3; clear hx3
  have H_hx4 := Lib.hid hx4; clear hx4
  have H_hgx := Lib.hid hgx; clear hgx
  have H_hbnd := Lib.hid hbnd; clear hbnd
  have H_hsv := Lib.hid hsv; clear hsv
  have H_hN := Lib.hid hN; clear hN
  have H_hN1 := Lib.hid hN1; clear hN1
  have H_hn := Lib.hid hn; clear hn
  have H_hn2 := Lib.hid hn2; clear hn2
  have H_hcc := Lib.hid hcc; clear hcc
  have H_hcb := Lib.hid hcb; clear hcb
  have H_hsl := Lib.hid hsl; clear hsl
  have H_hsb := Lib.hid hsb; clear hsb
  have H_hus := Lib.hid hus; clear hus
  go_enter Tryz.func116, Tryz.ntmps116
  go_wp2_with (fail)
  refine H_hm.out.mono ?_
  intro e w1 hm
  obtain ⟨g, off, cap, L, rfl, hb, h1, h2, h3, h4, h5, hcap⟩ := hm.split
  clear hm
  have hal : gx ≠ g ∨ ox = off := by
    rcases h5.out with ⟨n0, c0, hq⟩ | hq
    · simp only [Value.slice.injEq, Option.some.injEq, Addr.mk.injEq] at hq
      exact .inr hq.1.2.1
    · have := H_hgx.out; exact .inl (by omega)
  have hl := lshVU_any g off cap gx ox cx N 1 L M w1 (by have := H_hn.out; omega) (by have := H_hn2.out; omega) (by omega) (by omega) hb.out (H_bx.out.keep h4.out (fun h => h)) (by have := h2.out; have := H_hN1.out; omega) (by have := H_hx2.out; have := H_hx1.out; omega) H_hx4.out hal
  rw [show seg M ox N = zl from H_hx3.out.symm, ← H_hcc.out, ← H_hus.out] at hl
  have lNc : (N : Int) ≤ (cap : Int) := by have := h1; have := H_hN1.out; omega
  have H_hl := Lib.hid hl; clear hl
  go_wp2_with (fail)
  refine H_hl.out.mono ?_
  rintro e w2 ⟨rfl, hp⟩
  obtain ⟨k2, b2⟩ := hp.out
  have hlen2 : (spl L off us).length = L.length := spl_length (by have := h2.out; have := H_hsl.out; have := H_hN1.out; omega)
  have cc1 := b2.cell (o := off + N) (by have := h2.out; have := H_hN1.out; rw [hlen2]; omega)
  have cc2 := b2.frozen (off + N)
  have p6 := (Puts.refl b2).set (off + N) cc
  rw [spl_set (by rw [H_hsl.out]) (by have := h2.out; have := H_hN1.out; omega)] at p6
  generalize (spl L off us).getD (off + N) 0 = z9 at *
  clear hp hlen2
  have H_k2 := Lib.hid k2; clear k2
  have H_b2 := Lib.hid b2; clear b2
  have H_p6 := Lib.hid p6; clear p6
  go_wp2_with (refine wpList_clear_none (o := ⟨none, _, _, _, _, _⟩) rfl (.tmp 68) 105 rfl 122 Tryz.underlying105 _ _ (by rfl) ?_)
  generalize w2.setCell ⟨g, off + N, none⟩ (.int .u64 (cc : Int)) = w3 at *
  have hna : NatAt w3 (.slice (some ⟨g, off, none⟩) N1 cap) (us ++ [cc]) := by
    have := NatAt.spl hcap H_p6.out.blk (cap := cap) (by have := H_hsl.out; have := H_hN1.out; simp; omega) (by have := h2.out; omega) h3.out (fun a ha => by
      rcases List.mem_append.1 ha with h | h
      · exact H_hsb.out a h
      · rw [List.mem_singleton.1 h]; exact H_hcb.out)
    rw [show (us ++ [cc]).length = N1 by have := H_hsl.out; have := H_hN1.out; simp; omega] at this
    exact this
  have hno := norm_any _ _ _ (by have := H_hsl.out; have := H_hn2.out; simp; omega) hna
  have hvv : val (us ++ [cc]) = 2 * val zl := by
    rw [val_snoc, H_hsl.out]
    have := H_hsv.out
    omega
  rw [hvv] at hno
  clear hvv
  have H_hna := Lib.hid hna; clear hna
  have H_hno := Lib.hid hno; clear hno
  refine H_hno.out.mono ?_
  rintro e w7 ⟨rv, l, rfl, h6, hnorm, hval, hown, rfl⟩
  have H_h6 := Lib.hid h6; clear h6
  have H_hnorm := Lib.hid hnorm; clear hnorm
  have H_hval := Lib.hid hval; clear hval
  have H_hown := Lib.hid hown; clear hown
  go_wp2
  go_ret
  exact ⟨rv, l, rfl, NatOp.of h5.out h4.out (H_k2.out.trans H_p6.out.keep (fun _ _ h => h) (fun _ _ h => h)) H_h6.out (fun k hk => by have := H_hown.out k hk; simpa [Value.ownBlock] using this.symm), H_hnorm.out, H_hval.out⟩

theorem lsh_all (zv : Value) (zl : List Nat) (w : World) (hn2 : zl.length ≤ 1000) (h : NatAt w zv zl) :
    Calls Tryz.prog 116 #[zv, zv, .int .u64 1] w (NatRet w zv (2 * val zl)) := by
  rcases Nat.lt_or_ge 1 zl.length with h1 | h1
  · exact lsh_more zv zl w h1 hn2 h
  · exact lsh_word zv zv zl zl w h1 h h (.inl rfl)

set_option maxRecDepth 20000 in
set_option maxHeartbeats 2000000 in
theorem Lsh_all (b n : Nat) (vz : Value) (w : World) (hn : n < wpow 39) (hz : BI w b vz n) :
    Calls Tryz.prog 102 #[.pointer (some ⟨b, 0, none⟩), .pointer (some ⟨b, 0, none⟩), .int .u64 1] w (IntRet w b 0 vz ((2 * n : Nat) : Int)) := by
  obtain ⟨lz, hz, rfl⟩ := hz
  have hl : lz.length ≤ 39 := hz.norm.len_le hn
  have hc := lsh_all vz lz w.drew (by omega) hz.nat.drew
  have cz1 := hz.str.c1
  rw [Nat.zero_add] at cz1
  have nz : ¬ (vz.ownBlock = some b) := fun e => IntIs.ne hz.str hz.nat e rfl
  clear hn hl
  have H_hc := Lib.hid hc; clear hc
  have H_hz := Lib.hid hz; clear hz
  have H_nz := Lib.hid nz; clear nz
  go_enter Tryz.func102, Tryz.ntmps102
  go_wp2_with (fail)
  refine wp_region_E (S := (fun (w' : World) => w'.cell? ⟨b, 1, none⟩ = some vz)) 13 (by kernel_rfl) (by exact cz1) (fun hHeld => ?_)
  refine wpAnyE_takeP (i := 0) (v := ?v0_1) rfl (by kernel_rfl) (fun _ _ _ h => h) ⟨by rfl, ?y0_1⟩ (by assumption) ?r0_1
  case y0_1 => (intro w; go_simp; try with_reducible rfl)
  try simp only [Act.put, yA, yB, yD, yE, yF]
  refine wpAnyE_takeP (i := 1) (v := ?v1_1) rfl (by kernel_rfl) (fun _ _ _ h => h) ⟨by rfl, ?y1_1⟩ (by assumption) ?r1_1
  case y1_1 => (intro w; go_simp; try with_reducible rfl)
  try simp only [Act.put, yA, yB, yC, yD, yE, yF]
  refine wpAnyE_takeP (i := 2) (v := ?v2_1) rfl (by kernel_rfl) (fun _ _ _ h => h) ⟨by rfl, ?y2_1⟩ (by assumption) ?r2_1
  case y2_1 => (intro w; go_simp; try with_reducible rfl)
  try simp only [Act.put, yA, yB, yC, yD, yE, yF]
  refine wpAnyE_takeP (i := 3) (v := ?v3_1) rfl (by kernel_rfl) (fun _ _ _ h => h) ⟨by rfl, ?y3_1⟩ (by assumption) ?r3_1
  case y3_1 => (intro w; go_simp; try with_reducible rfl)
  try simp only [Act.put, yA, yB, yC, yD, yE, yF]
  refine wpAnyE_takeL (i := 4) (c := 10) (v := ?v4_1) rfl (by kernel_rfl) (fun _ _ _ h => h) ⟨by rfl, ?y4_1⟩ (by assumption) ?r4_1
  case y4_1 => (intro w hSw; go_split_ands; go_simp; try with_reducible rfl)
  try simp only [Act.put, yA, yB, yC, yD, yE, yF]
  refine wpAnyE_takeP (i := 5) (v := ?v5_1) rfl (by kernel_rfl) (fun _ _ _ h => h) ⟨by rfl, ?y5_1⟩ (by assumption) ?r5_1
  case y5_1 => (intro w; go_simp; try with_reducible rfl)
  try simp only [Act.put, yA, yB, yC, yD, yE, yF]
  refine wpAnyE_takeP (i := 6) (v := ?v6_1) rfl (by kernel_rfl) (fun _ _ _ h => h) ⟨by rfl, ?y6_1⟩ (by assumption) ?r6_1
  case y6_1 => (intro w; go_simp; try with_reducible rfl)
  try simp only [Act.put, yA, yB, yC, yD, yE, yF]
  refine wpAnyE_takeP (i := 7) (v := ?v7_1) rfl (by kernel_rfl) (fun _ _ _ h => h) ⟨by rfl, ?y7_1⟩ (by assumption) ?r7_1
  case y7_1 => (intro w; go_simp; try with_reducible rfl)
  try simp only [Act.put, yA, yB, yC, yD, yE, yF]
  refine wpAnyE_takeL (i := 8) (c := 10) (v := ?v8_1) rfl (by kernel_rfl) (fun _ _ _ h => h) ⟨by rfl, ?y8_1⟩ (by assumption) ?r8_1
  case y8_1 => (intro w hSw; go_split_ands; go_simp; try with_reducible rfl)
  try simp only [Act.put, yA, yB, yC, yD, yE, yF]
  refine wpAnyE_takeP (i := 9) (v := ?v9_1) rfl (by kernel_rfl) (fun _ _ _ h => h) ⟨by rfl, ?y9_1⟩ (by assumption) ?r9_1
  case y9_1 => (intro w; go_simp; try with_reducible rfl)
  try simp only [Act.put, yA, yB, yC, yD, yE, yF]
  refine wpAnyE_one (i := 10) rfl (by kernel_rfl) (fun K hK => ?_)
  go_simp
  refine H_hc.out.mono ?_; rintro e w1 hr; obtain ⟨rv, l, rfl, hop, hnorm, hval⟩ := hr; have hop := hop.of_drew; have kz := (H_hz.out.str.keep hop.keep H_nz.out).c1; have kf := (H_hz.out.str.keep hop.keep H_nz.out).f1; have kf0 := (H_hz.out.str.keep hop.keep H_nz.out).f0; have kz0 := (H_hz.out.str.keep hop.keep H_nz.out).c0; rw [Nat.zero_add] at kz kf; obtain ⟨ra, rc, hrv⟩ := hop.nat.form; generalize hll : l.length = nl at *; subst hrv; have H_hop := Lib.hid hop; have H_hnorm := Lib.hid hnorm; have H_hval := Lib.hid hval; have H_hll := Lib.hid hll; clear hop hnorm hval hll
  go_wp2_with (fail)
  have hHeldB : ((fun (w' : World) => w'.cell? ⟨b, 1, none⟩ = some vz)) _ := kz
  refine hK.out _ _ (fun _ => hHeldB) ?_
  clear hK K
  try simp only [Act.put, yA, yB, yC, yD, yE, yF]
  refine wpAnyE_takeP (i := 11) (v := ?v11_1) rfl (by kernel_rfl) (fun _ _ _ h => h) ⟨by rfl, ?y11_1⟩ (by assumption) ?r11_1
  case y11_1 => (intro w; go_simp; try with_reducible rfl)
  try simp only [Act.put, yA, yB, yC, yD, yE, yF]
  refine wpAnyE_takeP (i := 12) (v := ?v12_1) rfl (by kernel_rfl) (fun _ _ _ h => h) ⟨by rfl, ?y12_1⟩ (by assumption) ?r12_1
  case y12_1 => (intro w; go_simp; try with_reducible rfl)
  try simp only [Act.put, yA, yB, yC, yD, yE, yF]
  refine wpAnyE_one (i := 13) rfl (by kernel_rfl) (fun K hK => ?_)
  go_simp
  refine hK.out _ _ (fun h => Bool.noConfusion (show true = false from h)) ?_
  clear hK K
  try simp only [Act.put, yA, yB, yC, yD, yE, yF]
  refine wpAnyE_done (by kernel_rfl) ?_ _
  clear hHeldB
  have kz0' : (w1.setCell ⟨b, 1, none⟩ (.slice ra nl rc)).cell? ⟨b, 0, none⟩ = some (.bool false) := (cell?_setCell_ne (.inr (by simp))).trans kz0
  have kf0' : (w1.setCell ⟨b, 1, none⟩ (.slice ra nl rc)).frozen? ⟨b, 0, none⟩ = false := (frozen?_setCell' _ _ _ _).trans kf0
  clear cz1 kz kf kf0 kz0
  go_wp2_with (fail)
  go_ret
  exact ⟨rfl, IntIs.made H_hz.out.str H_hz.out.nat H_hop.out H_hnorm.out false (fun _ => rfl) _ (by simp [ival, H_hval.out]) rfl⟩

theorem dbl_all (g n : Nat) (v : Value) (w : World) (hn : n < wpow 39) (hz : BI w g v n) :
    Calls Tryz.prog 88 #[.pointer (some ⟨g, 0, none⟩), .pointer (some ⟨g, 0, none⟩)] w (fun e w' => e = .returned (.tuple #[]) ∧ BSet w g v (2 * n) w') := by
  have h := Lsh_all g n v w hn hz
  clear hn hz
  generalize 2 * n = r at *
  have H_h := Lib.hid h; clear h
  go_enter Tryz.func88, Tryz.ntmps88
  go_wp2_with (fail)
  refine H_h.out.mono ?_
  intro e w2 hr
  obtain ⟨rfl, hb⟩ := hr.bset
  clear hr
  have H_hb := Lib.hid hb; clear hb
  go_wp2
  go_end0
  exact ⟨rfl, H_hb.out⟩

end Go.Proofs.YtjjolcjeiogdmabGreatDoor

/- The plain law of long division by words: what stands in the words from digit to digit. No program is in sight. -/
namespace Go.Proofs.YtjjolcjeiogdmabGreatDoor
open Go.RowKit

theorem getD_ge {l : List Nat} {i : Nat} (h : l.length ≤ i) : l.getD i 0 = 0 := by
  simp [List.getD, List.getElem?_eq_none h]

theorem getD_snoc0 (l : List Nat) (i : Nat) : (l ++ [0]).getD i 0 = l.getD i 0 := by
  rw [getD_append]
  split
  · rfl
  · rename_i h
    rw [getD_ge (l := l) (by omega)]
    cases i - l.length with
    | zero => rfl
    | succ k => rfl

theorem val_two {l : List Nat} {k : Nat} (h : l.length = k + 2) : val l = (l.getD (k + 1) 0 * 18446744073709551616 + l.getD k 0) * wpow k + val (l.take k) := by
  have e1 := val_take_succ (l := l) (k := k + 1) (by omega)
  have e2 := val_take_succ (l := l) (k := k) (by omega)
  rw [List.take_of_length_le (by omega)] at e1
  rw [e1, e2, wpow_succ, Nat.add_mul]
  have : l.getD (k + 1) 0 * 18446744073709551616 * wpow k = 18446744073709551616 * wpow k * l.getD (k + 1) 0 := by
    rw [Nat.mul_comm (18446744073709551616 * wpow k), Nat.mul_assoc]
  have := Nat.mul_comm (wpow k) (l.getD k 0)
  omega

theorem val_three {l : List Nat} {k : Nat} (h : l.length = k + 3) : val l = ((l.getD (k + 2) 0 * 18446744073709551616 + l.getD (k + 1) 0) * 18446744073709551616 + l.getD k 0) * wpow k + val (l.take k) := by
  have e1 := val_two (l := l) (k := k + 1) h
  have e2 := val_take_succ (l := l) (k := k) (by omega)
  have e3 : wpow (k + 1) = 18446744073709551616 * wpow k := wpow_succ k
  have e4 : l.getD (k + 1 + 1) 0 = l.getD (k + 2) 0 := rfl
  rw [e4] at e1
  generalize val (l.take (k + 1)) = s at *
  generalize wpow (k + 1) = p1 at *
  generalize wpow k = p at *
  generalize l.getD (k + 2) 0 = x2 at *
  generalize l.getD (k + 1) 0 = x1 at *
  generalize l.getD k 0 = x0 at *
  generalize val (l.take k) = r at *
  generalize (18446744073709551616 : Nat) = B at *
  subst e2 e3
  rw [e1]
  generalize x2 * B + x1 = z
  rw [Nat.add_mul (z * B) x0 p, Nat.mul_assoc z B p, Nat.mul_comm p x0]
  omega

/-- what the guess of a digit comes to -/
theorem kd_guess {vs R : List Nat} {x n : Nat} (hn : 2 ≤ n) (hvl : vs.length = n) (hvb : ∀ a ∈ vs, a < 18446744073709551616) (hrl : R.length = n) (hrb : ∀ a ∈ R, a < 18446744073709551616) (hx : x < 18446744073709551616)
    (htop : 9223372036854775808 ≤ vs.getD (n - 1) 0) (hR : val R < val vs) :
    R.getD (n - 1) 0 ≤ vs.getD (n - 1) 0 ∧ (R.getD (n - 1) 0 = vs.getD (n - 1) 0 → val (x :: R) / val vs ≤ 18446744073709551615 ∧ 18446744073709551615 ≤ val (x :: R) / val vs + 1) ∧
    (∀ q, ((R.getD (n - 1) 0 * 18446744073709551616 + (x :: R).getD (n - 1) 0) * 18446744073709551616 + (x :: R).getD (n - 2) 0) / (vs.getD (n - 1) 0 * 18446744073709551616 + vs.getD (n - 2) 0) ≤ q →
      q * (vs.getD (n - 1) 0 * 18446744073709551616 + vs.getD (n - 2) 0) ≤ (R.getD (n - 1) 0 * 18446744073709551616 + (x :: R).getD (n - 1) 0) * 18446744073709551616 + (x :: R).getD (n - 2) 0 → q < 18446744073709551616 →
      val (x :: R) / val vs ≤ q ∧ q ≤ val (x :: R) / val vs + 1) := by
  obtain ⟨k, hk⟩ : ∃ k, n = k + 2 := ⟨n - 2, by omega⟩
  subst hk
  have f1 : k + 2 - 1 = k + 1 := rfl
  have f2 : k + 2 - 2 = k := rfl
  rw [f1] at htop
  rw [f1, f2]
  have eV := val_two hvl
  have eW := val_three (l := x :: R) (k := k) (by simp [hrl])
  have e0 : (x :: R).getD (k + 2) 0 = R.getD (k + 1) 0 := rfl
  rw [e0] at eW
  have hp : ∀ l : List Nat, (∀ a ∈ l, a < 18446744073709551616) → k ≤ l.length → val (l.take k) < wpow k := by
    intro l hl hk
    have := val_lt (xs := l.take k) (fun a ha => hl a (List.mem_of_mem_take ha))
    rwa [List.length_take, Nat.min_eq_left hk] at this
  have hxr : ∀ a ∈ x :: R, a < 18446744073709551616 := by
    intro a ha
    rcases List.mem_cons.1 ha with rfl | h
    · exact hx
    · exact hrb a h
  have p1 := hp vs hvb (by omega)
  have p2 := hp (x :: R) hxr (by simp; omega)
  have hv2 : vs.getD k 0 < 18446744073709551616 := getD_lt hvb pos64 k
  have hlt : val (x :: R) < val vs * 18446744073709551616 := by
    simp only [val]
    have h1 : 18446744073709551616 * (val R + 1) ≤ 18446744073709551616 * val vs := Nat.mul_le_mul_left _ hR
    rw [Nat.mul_comm (val vs)]
    omega
  generalize (x :: R).getD (k + 1) 0 = u1 at *
  generalize (x :: R).getD k 0 = u2 at *
  generalize R.getD (k + 1) 0 = t at *
  generalize vs.getD (k + 1) 0 = v1 at *
  generalize vs.getD k 0 = v2 at *
  generalize val ((x :: R).take k) = ur at *
  generalize val (vs.take k) = vr at *
  generalize val (x :: R) = W at *
  generalize val vs = V at *
  generalize wpow k = p at *
  refine ⟨kd_top eV p1 hv2 eW hlt, fun h => ?_, fun q h1 h2 h3 => ?_⟩
  · subst h
    exact kd_max eV p1 hv2 (by omega) eW hlt
  · exact kd_three (b := 18446744073709551616) eV p1 (by omega) eW p2 h1 h2 h3

/-- what stands in the words once the digits from k on have been found -/
structure KdInv (n m k t : Nat) (us vs ul R Qs : List Nat) : Prop where
  lu : ul.length = m + n
  ub : ∀ a ∈ ul, a < 18446744073709551616
  ueq : ∀ i, ul.getD i 0 = if i < k then us.getD i 0 else R.getD (i - k) 0
  rl : R.length = n
  rb : ∀ a ∈ R, a < 18446744073709551616
  rv : val R < val vs
  ht : R.getD (n - 1) 0 = t
  ql : Qs.length = m - k
  qb : ∀ a ∈ Qs, a < 18446744073709551616
  hv : val (us.drop k) = val Qs * val vs + val R

theorem val_drop {us : List Nat} {k : Nat} (h : k < us.length) : val (us.drop k) = us.getD k 0 + 18446744073709551616 * val (us.drop (k + 1)) := by
  rw [List.drop_eq_getElem_cons h]
  simp [val, List.getD, h]

theorem KdInv.start {n m : Nat} {us vs : List Nat} (hul : us.length = m + n) (hub : ∀ a ∈ us, a < 18446744073709551616) (hn : 2 ≤ n) (h : val (us.drop m) < val vs) :
    KdInv n m (m + 1) 0 us vs us (us.drop (m + 1) ++ [0]) [] := by
  have hdl : (us.drop (m + 1)).length = n - 1 := by simp; omega
  have e0 : val (us.drop (m + 1) ++ [0]) = val (us.drop (m + 1)) := by rw [val_snoc]; simp
  refine ⟨hul, hub, fun i => ?_, by simp; omega, ?_, ?_, ?_, by simp, by simp, ?_⟩
  · rw [getD_snoc0]
    split
    · rfl
    · rename_i hi
      simp only [List.getD, List.getElem?_drop]
      rw [show m + 1 + (i - (m + 1)) = i by omega]
  · intro a ha
    rw [List.mem_append, List.mem_singleton] at ha
    rcases ha with ha | rfl
    · exact hub a (List.mem_of_mem_drop ha)
    · omega
  · rw [e0]
    have := val_drop (us := us) (k := m) (by omega)
    omega
  · rw [getD_snoc0, getD_ge (by omega)]
  · rw [e0]; simp [val]

theorem KdInv.get {n m j t : Nat} {us vs ul R Qs : List Nat} (h : KdInv n m (j + 1) t us vs ul R Qs) (i : Nat) : ul.getD (j + i) 0 = (us.getD j 0 :: R).getD i 0 := by
  rw [h.ueq]
  cases i with
  | zero => rw [if_pos (by omega)]; rfl
  | succ i =>
    rw [if_neg (by omega), show j + (i + 1) - (j + 1) = i by omega]
    rfl

theorem KdInv.window {n m j t : Nat} {us vs ul R Qs : List Nat} (h : KdInv n m (j + 1) t us vs ul R Qs) (hj : j < m) : seg ul j (n + 1) = us.getD j 0 :: R := by
  have hu := h.lu
  have hr := h.rl
  apply ext_getD
  · rw [seg_length (by omega)]; simp [hr]
  · intro i hi
    rw [seg_length (by omega)] at hi
    rw [seg_getD hi, h.get]

theorem KdInv.windowM {n m t : Nat} {us vs ul R Qs : List Nat} (h : KdInv n m (m + 1) t us vs ul R Qs) : seg ul m n = (us.getD m 0 :: R).take n := by
  have hu := h.lu
  have hr := h.rl
  apply ext_getD
  · rw [seg_length (by omega)]; simp [hr]
  · intro i hi
    rw [seg_length (by omega)] at hi
    rw [seg_getD hi, h.get]
    simp [List.getD, hi]

theorem KdInv.lt {n m k t : Nat} {us vs ul R Qs : List Nat} (h : KdInv n m k t us vs ul R Qs) {x : Nat} (hx : x < 18446744073709551616) : val (x :: R) < val vs * 18446744073709551616 := by
  have := h.rv
  simp only [val]
  have h1 : 18446744073709551616 * (val R + 1) ≤ 18446744073709551616 * val vs := Nat.mul_le_mul_left _ this
  rw [Nat.mul_comm (val vs)]
  omega

theorem KdInv.digit {n m k t : Nat} {us vs ul R Qs : List Nat} (h : KdInv n m k t us vs ul R Qs) {x : Nat} (hx : x < 18446744073709551616) : val (x :: R) / val vs < 18446744073709551616 := by
  have := h.rv
  rw [Nat.div_lt_iff_lt_mul (by omega), Nat.mul_comm]
  exact h.lt hx

/-- a digit further -/
theorem KdInv.next {n m j t : Nat} {us vs ul R Qs R' : List Nat} (h : KdInv n m (j + 1) t us vs ul R Qs) (hj : j < m) (hus : us.length = m + n) (hub : ∀ a ∈ us, a < 18446744073709551616)
    (hl : R'.length = n) (hb : ∀ a ∈ R', a < 18446744073709551616) (hv : val R' = val (us.getD j 0 :: R) % val vs) :
    KdInv n m j (R'.getD (n - 1) 0) us vs (spl ul j (R' ++ [0])) R' (val (us.getD j 0 :: R) / val vs :: Qs) := by
  have hu := h.lu
  have hr := h.rl
  have hx : us.getD j 0 < 18446744073709551616 := getD_lt hub pos64 j
  have h0 : 0 < val vs := by have := h.rv; omega
  have hl1 : (R' ++ [0]).length = n + 1 := by simp [hl]
  refine ⟨?_, ?_, fun i => ?_, hl, hb, ?_, rfl, ?_, ?_, ?_⟩
  · rw [spl_length (by omega)]; exact hu
  · intro a ha
    rcases spl_mem ha with ha | ha
    · exact h.ub a ha
    · rw [List.mem_append, List.mem_singleton] at ha
      rcases ha with ha | rfl
      · exact hb a ha
      · omega
  · rw [spl_getD (by omega), hl1]
    by_cases h1 : i < j
    · rw [if_neg (by omega), if_pos h1, h.ueq, if_pos (by omega)]
    · rw [if_neg h1]
      by_cases h2 : i < j + (n + 1)
      · rw [if_pos (by omega), getD_snoc0]
      · rw [if_neg (by omega), h.ueq, if_neg (by omega), getD_ge (by omega), getD_ge (by omega)]
  · rw [hv]; exact Nat.mod_lt _ h0
  · have := h.ql; simp; omega
  · intro a ha
    rcases List.mem_cons.1 ha with rfl | ha
    · exact h.digit hx
    · exact h.qb a ha
  · rw [val_drop (by omega)]
    have := kd_next (x := us.getD j 0) (Q := val (us.getD j 0 :: R) / val vs) (V := val vs) (R := R) (Qs := Qs) (.inr trivial) rfl _ h.hv
    rw [this, hv]

/-- the first digit is 0 -/
theorem KdInv.first {n m t : Nat} {us vs ul R Qs R' : List Nat} (h : KdInv n m (m + 1) t us vs ul R Qs) (hus : us.length = m + n) (hn : 2 ≤ n) (hlt : val (us.drop m) < val vs)
    (hl : R'.length = n) (hb : ∀ a ∈ R', a < 18446744073709551616) (hv : val R' = val (us.getD m 0 :: R) % val vs) :
    KdInv n m m (R'.getD (n - 1) 0) us vs (spl ul m R') R' Qs := by
  have hu := h.lu
  have hQ : Qs = [] := List.eq_nil_of_length_eq_zero (by have := h.ql; omega)
  have hW : val (us.getD m 0 :: R) = val (us.drop m) := by
    rw [val_drop (by omega), h.hv, hQ]; simp [val]
  rw [hW, Nat.mod_eq_of_lt hlt] at hv
  refine ⟨?_, ?_, fun i => ?_, hl, hb, by omega, rfl, by rw [hQ]; simp, h.qb, by rw [hQ]; simp [val]; omega⟩
  · rw [spl_length (by omega)]; exact hu
  · intro a ha
    rcases spl_mem ha with ha | ha
    · exact h.ub a ha
    · exact hb a ha
  · rw [spl_getD (by omega), hl]
    by_cases h1 : i < m
    · rw [if_neg (by omega), if_pos h1, h.ueq, if_pos (by omega)]
    · rw [if_neg h1]
      by_cases h2 : i < m + n
      · rw [if_pos (by omega)]
      · rw [if_neg (by omega), getD_ge (by omega), getD_ge (by omega)]

theorem KdInv.small {n m t : Nat} {us vs ul R Qs : List Nat} (h : KdInv n m (m + 1) t us vs ul R Qs) (hus : us.length = m + n) (hn : 2 ≤ n) (hlt : val (us.drop m) < val vs) : val (us.getD m 0 :: R) < val vs := by
  have hQ : Qs = [] := List.eq_nil_of_length_eq_zero (by have := h.ql; omega)
  have hW : val (us.getD m 0 :: R) = val (us.drop m) := by
    rw [val_drop (by omega), h.hv, hQ]; simp [val]
  omega

/-- all digits are found -/
theorem KdInv.done {n m t : Nat} {us vs ul R Qs : List Nat} (h : KdInv n m 0 t us vs ul R Qs) : ul = R ++ List.replicate m 0 ∧ val us = val Qs * val vs + val R ∧ Qs.length = m := by
  refine ⟨?_, h.hv, by have := h.ql; omega⟩
  have hu := h.lu
  have hr := h.rl
  apply ext_getD
  · simp; omega
  · intro i hi
    rw [h.ueq, if_neg (by omega), getD_append, Nat.sub_zero]
    split
    · rfl
    · rename_i h2
      rw [getD_ge (by omega)]
      simp only [List.getD, List.getElem?_replicate]
      split <;> rfl

theorem spl_set_in {L q : List Nat} {o i x : Nat} (h : o + q.length ≤ L.length) (hi : i < q.length) : (spl L o q).set (o + i) x = spl L o (q.set i x) := by
  apply ext_getD
  · rw [List.length_set, spl_length h, spl_length (by rw [List.length_set]; exact h)]
  · intro k _
    rw [getD_set _ _ _ _ (by rw [spl_length h]; omega), spl_getD h, spl_getD (by rw [List.length_set]; exact h), List.length_set]
    by_cases e : o + i = k
    · subst e
      rw [if_pos rfl, if_pos (by omega), show o + i - o = i by omega, getD_set _ _ _ _ hi, if_pos rfl]
    · rw [if_neg e]
      by_cases a : o ≤ k ∧ k < o + q.length
      · rw [if_pos a, if_pos a, getD_set _ _ _ _ hi, if_neg (by omega)]
      · rw [if_neg a, if_neg a]

theorem snoc_set {S : List Nat} {n d x : Nat} (h : S.length = n) : (S ++ [d]).set n x = S ++ [x] := by
  subst h
  rw [List.set_append_right _ _ (Nat.le_refl _), Nat.sub_self]
  rfl

/-- words written over the lowest ones of a part -/
theorem spl_low {L D S : List Nat} {o n : Nat} (h : o + D.length ≤ L.length) (hD : D.length = n + 1) (hS : S.length = n) : spl (spl L o D) o S = spl L o (S ++ [D.getD n 0]) := by
  have e := spl_in (L := L) (q := D) (s := S) (o := o) (k := 0) h (by omega)
  rw [Nat.add_zero, List.take_zero, List.nil_append, Nat.zero_add, hS] at e
  rw [e]
  congr 2
  have h2 := last_split hD
  conv => lhs; rw [h2.1]
  rw [List.drop_append_of_le_length (by omega), List.drop_eq_nil_of_le (by omega), List.nil_append]

theorem spl_over {L D S : List Nat} {o n : Nat} (h : o + D.length ≤ L.length) (hD : D.length = n) (hS : S.length = n) : spl (spl L o D) o S = spl L o S := by
  have e := spl_in (L := L) (q := D) (s := S) (o := o) (k := 0) h (by omega)
  rw [Nat.add_zero, List.take_zero, List.nil_append, Nat.zero_add, hS] at e
  rw [e, List.drop_eq_nil_of_le (by omega), List.append_nil]

/-- while a guess is put right: x is the guess times the divisor's second word -/
structure GInv (U u2 v1 v2 q r x1 x2 : Nat) : Prop where
  e : q * v1 + r = U
  x : 18446744073709551616 * x1 + x2 = q * v2
  g : (U * 18446744073709551616 + u2) / (v1 * 18446744073709551616 + v2) ≤ q
  b : q < 18446744073709551616

section
variable {U u2 v1 v2 q r x1 x2 : Nat}

theorem GInv.stop (h : GInv U u2 v1 v2 q r x1 x2) (hs : ¬ 18446744073709551616 * r + u2 < 18446744073709551616 * x1 + x2) : q * (v1 * 18446744073709551616 + v2) ≤ U * 18446744073709551616 + u2 :=
  kn_end h.e (by have := h.x; omega)

theorem GInv.pos (h : GInv U u2 v1 v2 q r x1 x2) (hs : 18446744073709551616 * r + u2 < 18446744073709551616 * x1 + x2) : 0 < q := by
  rcases Nat.eq_zero_or_pos q with h0 | h0
  · exfalso
    have := h.x
    rw [h0, Nat.zero_mul] at this
    omega
  · exact h0

theorem GInv.great (h : GInv U u2 v1 v2 q r x1 x2) (hs : 18446744073709551616 * r + u2 < 18446744073709551616 * x1 + x2) : (U * 18446744073709551616 + u2) / (v1 * 18446744073709551616 + v2) ≤ q - 1 :=
  kn_great h.e (Nat.div_mul_le_self _ _) (by have := h.g; have := h.b; omega) (.inr (by have := h.x; omega))

theorem GInv.sub1 (h : GInv U u2 v1 v2 q r x1 x2) (hs : 18446744073709551616 * r + u2 < 18446744073709551616 * x1 + x2) : (q - 1) * v1 + (r + v1) = U ∧ (q - 1) * v2 + v2 = q * v2 := by
  obtain ⟨c, rfl⟩ : ∃ c, q = c + 1 := ⟨q - 1, by have := h.pos hs; omega⟩
  have := h.e
  rw [Nat.add_mul, Nat.one_mul] at this
  rw [Nat.add_sub_cancel]
  refine ⟨by omega, by rw [Nat.add_mul, Nat.one_mul]⟩

theorem GInv.far (h : GInv U u2 v1 v2 q r x1 x2) (hs : 18446744073709551616 * r + u2 < 18446744073709551616 * x1 + x2) (hv : v2 < 18446744073709551616) (hr : 18446744073709551616 ≤ r + v1) :
    (q - 1) * (v1 * 18446744073709551616 + v2) ≤ U * 18446744073709551616 + u2 :=
  kn_end (h.sub1 hs).1 (kn_far hv (by have := h.b; omega) hr)

theorem GInv.next (h : GInv U u2 v1 v2 q r x1 x2) (hs : 18446744073709551616 * r + u2 < 18446744073709551616 * x1 + x2) {y1 y2 : Nat} (hy : 18446744073709551616 * y1 + y2 + v2 = 18446744073709551616 * x1 + x2) : GInv U u2 v1 v2 (q - 1) (r + v1) y1 y2 :=
  ⟨(h.sub1 hs).1, by have := (h.sub1 hs).2; have := h.x; omega, h.great hs, by have := h.b; omega⟩

theorem GInv.ge (h : GInv U u2 v1 v2 q r x1 x2) (hs : 18446744073709551616 * r + u2 < 18446744073709551616 * x1 + x2) : v2 ≤ 18446744073709551616 * x1 + x2 := by
  have := (h.sub1 hs).2
  have := h.x
  omega

end

theorem GInv.start {t u1 u2 v1 v2 q r : Nat} (h : t * 18446744073709551616 + u1 = q * v1 + r) (hr : r < v1) (hu2 : u2 < 18446744073709551616) (hq : q < 18446744073709551616) :
    GInv (t * 18446744073709551616 + u1) u2 v1 v2 q r (mulH q v2) (mulL q v2) := by
  refine ⟨h.symm, ?_, ?_, hq⟩
  · unfold mulH mulL; generalize q * v2 = p; omega
  · have h1 := guess_ge32 (u := t * 18446744073709551616 + u1) (u1 := u2) (y1 := v1) (y0 := v2) (b := 18446744073709551616) (by omega) hu2
    have h2 : (t * 18446744073709551616 + u1) / v1 = q := by
      rw [h, Nat.mul_comm, Nat.mul_add_div (by omega), Nat.div_eq_of_lt hr]; omega
    omega

/-- the first digit: nothing is taken away -/
theorem kd_fine0 {v W s : List Nat} {n q : Nat} (hW : W.length = n) (hs : s.length = n) (hWb : ∀ a ∈ W, a < 18446744073709551616) (hsb : ∀ a ∈ s, a < 18446744073709551616)
    (hlt : val W < val v) (hsv : val s = val v * q) (hc : (subVs W s 0).2 = 0) : q = 0 ∧ val (subVs W s 0).1 = val W := by
  have e := subVs_val W s 0 (by omega) hWb hsb (by omega)
  rw [hc] at e
  have : q = 0 := by
    rcases Nat.eq_zero_or_pos q with h | h
    · exact h
    · have : val v * 1 ≤ val v * q := Nat.mul_le_mul_left _ h
      omega
  subst this
  rw [Nat.mul_zero] at hsv
  exact ⟨rfl, by omega⟩

/-- the first digit: what was taken away is added again -/
theorem kd_back0 {v W s : List Nat} {n q : Nat} (hW : W.length = n) (hs : s.length = n) (hv : v.length = n) (hWb : ∀ a ∈ W, a < 18446744073709551616) (hsb : ∀ a ∈ s, a < 18446744073709551616) (hvb : ∀ a ∈ v, a < 18446744073709551616)
    (_hlt : val W < val v) (hsv : val s = val v * q) (hq : q ≤ 1) (hc : (subVs W s 0).2 = 1) : q = 1 ∧ val (addVs (subVs W s 0).1 v 0).1 = val W := by
  have e := subVs_val W s 0 (by omega) hWb hsb (by omega)
  have hl := subVs_length W s 0 (by omega)
  have hDb := subVs_lt W s 0
  rw [hc] at e
  rw [hW] at e hl
  generalize (subVs W s 0).1 = D at *
  have hD := val_lt hDb
  rw [hl] at hD
  have hq1 : q = 1 := by
    rcases Nat.eq_zero_or_pos q with h | h
    · rw [h, Nat.mul_zero] at hsv
      omega
    · omega
  rw [hq1, Nat.mul_one] at hsv
  have ea := addVs_val D v 0 (by omega)
  have hal := addVs_lt D v 0
  have hall := addVs_length D v 0 (by omega)
  have hc2 := addVs_carry D v 0 hDb hvb (by omega)
  generalize (addVs D v 0).1 = S at *
  generalize (addVs D v 0).2 = c2 at *
  have hS := val_lt hal
  rw [hall, hl] at hS
  rw [hl] at ea
  refine ⟨hq1, ?_⟩
  rcases Nat.eq_zero_or_pos c2 with h | h
  · rw [h] at ea; omega
  · obtain rfl : c2 = 1 := by omega
    omega

end Go.Proofs.YtjjolcjeiogdmabGreatDoor

/- big: mulWW, greaterThan; words in a block. -/
namespace Go.Proofs.YtjjolcjeiogdmabGreatDoor
open Go.RowKit

theorem mulWW_any (x y : Nat) (hx : x < 18446744073709551616) (hy : y < 18446744073709551616) (w : World) :
    Calls Tryz.prog 121 #[.int .u64 x, .int .u64 y] w fun e w' => e = .returned (.tuple #[.int .u64 (mulH x y : Nat), .int .u64 (mulL x y : Nat)]) ∧ w = w' := by
  have h := bits_Mul x y hx hy
  generalize mulH x y = a at *
  generalize mulL x y = b at *
  have H_h := Lib.hid h; clear h
  go_enter Tryz.func121, Tryz.ntmps121
  go_wp2_with (go_at_call 147; refine (H_h.out _).mono ?_; rintro e w' ⟨rfl, rfl⟩)
  go_ret2
  exact ⟨rfl, rfl⟩

theorem greaterThan_any (x1 x2 y1 y2 : Nat) (hx : x2 < 18446744073709551616) (hy : y2 < 18446744073709551616) (w : World) :
    Calls Tryz.prog 171 #[.int .u64 x1, .int .u64 x2, .int .u64 y1, .int .u64 y2] w fun e w' => e = .returned (.bool (decide (18446744073709551616 * y1 + y2 < 18446744073709551616 * x1 + x2))) ∧ w = w' := by
  obtain ⟨b, hb⟩ : ∃ b, b = decide (18446744073709551616 * y1 + y2 < 18446744073709551616 * x1 + x2) := ⟨_, rfl⟩
  rw [← hb]
  rcases Nat.lt_trichotomy y1 x1 with h | h | h
  · obtain rfl : b = true := by rw [hb]; exact decide_eq_true (by omega)
    have t1 : decide ((y1 : Int) < (x1 : Int)) = true := decide_eq_true (by omega)
    clear hb hx hy
    go_enter Tryz.func171, Tryz.ntmps171
    go_wp2
    go_ret
    exact ⟨by simp, rfl⟩
  · subst h
    have t1 : decide ((y1 : Int) < (y1 : Int)) = false := decide_eq_false (by omega)
    have t2 : ((y1 : Int) == (y1 : Int)) = true := by simp
    have t3 : decide ((y2 : Int) < (x2 : Int)) = b := by rw [hb]; exact decide_eq_decide.2 (by omega)
    clear hb hx hy
    go_enter Tryz.func171, Tryz.ntmps171
    go_wp2
    go_ret
    exact ⟨by simp_all, rfl⟩
  · obtain rfl : b = false := by rw [hb]; exact decide_eq_false (by omega)
    have t1 : decide ((y1 : Int) < (x1 : Int)) = false := decide_eq_false (by omega)
    have t1n : ¬ y1 < x1 := by omega
    have t2 : ((x1 : Int) == (y1 : Int)) = false := by rw [beq_eq_false_iff_ne]; omega
    have t2n : ¬ x1 = y1 := by omega
    clear hb hx hy h
    go_enter Tryz.func171, Tryz.ntmps171
    go_wp2
    go_ret
    exact ⟨rfl, rfl⟩

theorem cell_fresh' {w w' : World} {p : Addr} {v : Value} (h : w.cell? p = some v) (hk : Fresh w w') : w'.cell? p = some v := (hk.cell (World.block_lt_of_cell? _ _ h) (fun h => h)).trans h

/-- words lie in a block -/
def VAt (w : World) (g o : Nat) (l : List Nat) : Prop := ∃ L, Blk .u64 w g L ∧ o + l.length ≤ L.length ∧ seg L o l.length = l ∧ (∀ a ∈ L, a < 18446744073709551616)

theorem VAt.keep {S : Nat → Prop} {w w' : World} {g o : Nat} {l : List Nat} (h : VAt w g o l) (hk : Keep S w w') (hs : ¬ S g) : VAt w' g o l := by
  obtain ⟨L, h1, h2⟩ := h
  exact ⟨L, h1.keep hk hs, h2⟩

theorem VAt.cell {w : World} {g o : Nat} {l : List Nat} (h : VAt w g o l) {i : Nat} (hi : i < l.length) : w.cell? ⟨g, o + i, none⟩ = some (wd .u64 (l.getD i 0)) := by
  obtain ⟨L, h1, h2, h3, _⟩ := h
  rw [h1.cell (by omega)]
  congr 2
  have := seg_getD (L := L) (off := o) hi
  rw [h3] at this
  rw [this]

theorem VAt.lt {w : World} {g o : Nat} {l : List Nat} (h : VAt w g o l) : g < w.heap.size := by
  obtain ⟨L, h1, _⟩ := h
  exact h1.lt

/-- the place for a product of n + 1 words that the stack hands out -/
structure StkGot (T : Nat → Prop) (w w1 : World) (gh oh n1 : Nat) (Lh : List Nat) : Prop where
  b : Blk .u64 w1 gh Lh
  l : oh + n1 ≤ Lh.length
  k : Keep T w w1
  o : gh < w.heap.size → T gh

end Go.Proofs.YtjjolcjeiogdmabGreatDoor
