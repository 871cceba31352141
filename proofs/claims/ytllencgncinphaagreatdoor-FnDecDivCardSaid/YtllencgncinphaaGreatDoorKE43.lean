/- govalues' whole numbers of 64 bits: add, subAbs, isOdd, rshHalfEven. -/
import Derived.WalkSmall
import Derived.Test.YtllencgncinphaaGreatDoorKE8
import Derived.Test.YtllencgncinphaaGreatDoorKE16
import Derived.Test.YtllencgncinphaaGreatDoorKE20
import Derived.Test.YtllencgncinphaaGreatDoorKE25
import Derived.Test.YtllencgncinphaaGreatDoorKE30
import Derived.Test.YtllencgncinphaaGreatDoorKE37
import Derived.Test.YtllencgncinphaaGreatDoorKE42
namespace Go.Proofs.YtllencgncinphaaGreatDoor
open Go.RowKit
open Go.Lib (hid)
set_option maxRecDepth 20000
set_option maxHeartbeats 2000000





theorem BI.words {w : World} {g n : Nat} {v : Value} (h : BI w g v n) :
 (n = 0 ∧ ∃ a c, v = .slice a 0 c) ∨ (0 < n ∧ ∃ gx ox cx m, v = .slice (some ⟨gx, ox, none⟩) (m + 1 : Nat) cx ∧ w.cell? ⟨gx, ox, none⟩ = some (wd .u64 (n % 18446744073709551616)) ∧ (n < 18446744073709551616 → m = 0)) := by
 obtain ⟨l, hi, rfl⟩ := h
 by_cases h0 : l.length = 0
 · obtain ⟨a, c, hv⟩ := hi.nat.form
   rw [h0] at hv
   exact .inl ⟨by rw [List.eq_nil_of_length_eq_zero h0]; rfl, a, c, hv⟩
 · obtain ⟨gx, ox, cx, M, rfl, bx, h1, h2, h3, h4⟩ := hi.nat.open_pos (by omega)
   right
   obtain ⟨m, hm⟩ : ∃ m, l.length = m + 1 := ⟨l.length - 1, by omega⟩
   have hp : 0 < val l := by
    rcases Nat.eq_zero_or_pos (val l) with h | h
    · have := val_nil_of hi.norm h
      rw [this] at h0; simp at h0
    · exact h
   refine ⟨hp, gx, ox, cx, m, by rw [hm], ?_, ?_⟩
   · have hc := bx.cell (o := ox) (by omega)
     have hs : l = M.getD ox 0 :: seg M (ox + 1) m := by
      conv => lhs; rw [h3, hm]
      exact seg_head (by omega)
     have hlt := getD_lt h4 pos64 ox
     have hv : val l % 18446744073709551616 = M.getD ox 0 := by
      rw [hs]
      simp only [val]
      rw [Nat.add_mul_mod_self_left, Nat.mod_eq_of_lt hlt]
     rw [hv]; exact hc
   · intro hlt
     have := hi.norm.len_le (k := 1) (by unfold wpow; omega)
     omega

theorem wpList_clear_none {P : Program} {w : World} {ops : Array Oper} {rest : List Oper} {o : Oper} {a : Act} {Q : Exit → Act → World → Prop} (hgd : o.guard = none) (d : Operand) (dT : TypeId)
 (ho : o.op = .call { callee := .builtin .clear, args := #[d], argTypes := #[dT] }) (elem : TypeId) (hu : P.underlying dT = some (.slice elem)) (a0 : Option Addr) (c : Nat)
 (hd : a.eval d = .slice a0 0 c) (h : wpList P ops Q rest (a.put o.dst (.tuple #[])) w) : wpList P ops Q (o :: rest) a w := by
 refine wpList_plain hgd fun K hK => ?_
 have hrun : (Builtin.clear_ #[dT] o.type #[.slice a0 0 c]).run P w = .ok (.tuple #[]) w := by
  cases a0 <;> simp [Builtin.clear_, run_underlying hu, Result.andThen]
 unfold Oper.wp
 simp [execOp, ho, resolve, invoke, builtin, hd, hrun, Result.andThen]
 exact hK _ _ h

theorem lshVU_one (g off cap gx ox cx r : Nat) (L : List Nat) (w : World) (bz : Blk .u64 w g L) (ho : off + 1 ≤ L.length)
 (hc : w.cell? ⟨gx, ox, none⟩ = some (wd .u64 r)) :
 Calls Tryz.prog 164 #[.slice (some ⟨g, off, none⟩) 1 cap, .slice (some ⟨gx, ox, none⟩) 1 cx, .int .u64 1] w
  (fun e w' => e = .returned (.int .u64 ((r / 9223372036854775808 : Nat) : Int)) ∧ Puts .u64 g (L.set off (2 * r % 18446744073709551616)) w w') := by
 have hcz := bz.cell (o := off) (by omega)
 have hfz := bz.frozen off
 have hl : Calls Tryz.prog 179 #[.slice (some ⟨g, off, none⟩) 1 cap, .slice (some ⟨gx, ox, none⟩) 1 cx, .int .u64 1] w
  (fun e w' => e = .returned (.int .u64 ((r / 9223372036854775808 : Nat) : Int)) ∧ Puts .u64 g (L.set off (2 * r % 18446744073709551616)) w w') := by
  generalize L.getD off 0 = z0 at *
  have b1 : bits BinOp.and IntKind.u64 1 63 = 1 := by decide
  have b2 : IntKind.u64.wrap (64 - 1) = 63 := by decide
  have b3 : bits BinOp.and IntKind.u64 63 63 = 63 := by decide
  have b4 : IntKind.u64.wrap ((r : Int) * 2) = ((2 * r % 18446744073709551616 : Nat) : Int) := by
   rw [show (r : Int) * 2 = ((2 * r : Nat) : Int) by omega]; exact wrap_u64_mod _
  have b5 : ((r / 9223372036854775808 : Nat) : Int) = (r : Int) / 9223372036854775808 := by omega
  rw [b5]
  generalize 2 * r % 18446744073709551616 = z1 at *
  clear b5
  have H_bz := hid bz; have H_ho := hid ho; clear bz ho
  go_enter Tryz.func179, Tryz.ntmps179
  go_wp2
  refine wp_loop_rounds 1 ?_
  rw [rounds_succ]
  go_wp2
  go_ret
  exact ⟨rfl, (Puts.refl H_bz.out).set off z1⟩
 clear hcz hfz hc
 have H_bz := hid bz; have H_hl := hid hl; clear bz hl
 go_enter Tryz.func164, Tryz.ntmps164
 go_wp2_with (fail)
 refine H_hl.out.mono ?_
 rintro e w2 ⟨rfl, hp⟩
 have H_hp := hid hp; clear hp
 go_wp2
 go_ret
 exact ⟨rfl, H_hp.out⟩

theorem lsh_word (zv xv : Value) (zl xl : List Nat) (w : World) (hn : xl.length ≤ 1) (h : NatAt w zv zl) (hx : NatAt w xv xl) (hs : Sep zv xv) :
 Calls Tryz.prog 148 #[zv, xv, .int .u64 1] w (NatRet w zv (2 * val xl)) := by
 by_cases h0 : xl.length = 0
 · obtain ⟨a, c, hv⟩ := h.form
   obtain ⟨ax, cx, hxv⟩ := hx.form
   have hr : NatRet w zv 0 (.returned (.slice a 0 c)) w := NatRet.empty h hv
   have e0 : 2 * val xl = 0 := by rw [List.eq_nil_of_length_eq_zero h0]; rfl
   rw [e0]
   rw [h0] at hxv
   generalize zl.length = nz at *
   subst hv hxv
   clear hn h0 e0
   have H_h := hid h; have H_hx := hid hx; have H_hs := hid hs; have H_hr := hid hr; clear h hx hs hr
   go_enter Tryz.func148, Tryz.ntmps148
   go_wp2
   go_ret
   exact H_hr.out
 · obtain ⟨gx, ox, cx, M, rfl, bx, hx1, hx2, hx3, hx4⟩ := hx.open_pos (by omega)
   have hm := make_any zv zl 2 w (by omega) (by omega) h
   have hgx := bx.lt
   have hl1 : xl.length = 1 := by omega
   obtain ⟨r, rfl⟩ : ∃ r, xl = [r] := List.length_eq_one_iff.1 hl1
   have hr : r < 18446744073709551616 := hx.bnd r (by simp)
   have hgd : M.getD ox 0 = r := by
    have := hx3
    rw [hl1, seg_head (by omega), seg_zero] at this
    simpa using this.symm
   rw [hl1]
   have ev : 2 * val [r] = 2 * r := by simp [val]
   rw [ev]
   clear ev hx3 hn h0 hl1
   have H_h := hid h; have H_hx := hid hx; have H_hs := hid hs; have H_bx := hid bx; have H_hx1 := hid hx1; have H_hx2 := hid hx2; have H_hx4 := hid hx4; have H_hgd := hid hgd; have H_hr := hid hr; clear h hx hs bx hx1 hx2 hx4 hgd hr
   go_enter Tryz.func148, Tryz.ntmps148
   go_wp2_with (fail)
   refine hm.mono ?_
   intro e w1 hm
   obtain ⟨g, off, cap, L, rfl, hb, h1, h2, h3, h4, h5, hcap⟩ := hm.split
   clear hm
   have hcx := (H_bx.out.keep h4.out (fun h => h)).cell (o := ox) (by have := H_hx1.out; have := H_hx2.out; have : [r].length = 1 := rfl; omega)
   rw [H_hgd.out] at hcx
   have hls := fun c => lshVU_one g off c gx ox cx r L w1 hb.out (by have := h2.out; omega) hcx
   clear hcx
   have H_hls := hid hls; clear hls
   go_wp2_with (fail)
   refine (H_hls.out _).mono ?_
   rintro e w2 ⟨rfl, hp⟩
   have cc1 := hp.blk.cell (o := off + 1) (by have := h2.out; rw [List.length_set]; omega)
   have cc2 := hp.blk.frozen (off + 1)
   have p6 := hp.set (off + 1) (r / 9223372036854775808)
   generalize (L.set off (2 * r % 18446744073709551616)).getD (off + 1) 0 = z9 at *
   have H_hp := hid hp; have H_p6 := hid p6; clear hp p6
   go_wp2_with (refine wpList_clear_none (o := ⟨none, _, _, _, _, _⟩) rfl (.tmp 68) 108 rfl 123 Tryz.underlying108 _ _ (by rfl) ?_)
   generalize wr6 : w2.setCell ⟨g, off + 1, none⟩ (.int .u64 ((r : Int) / 9223372036854775808)) = w3 at *
   have e5 : w2.setCell ⟨g, off + 1, none⟩ (.int .u64 ((r / 9223372036854775808 : Nat) : Int)) = w3 := by
    rw [← wr6, show ((r / 9223372036854775808 : Nat) : Int) = (r : Int) / 9223372036854775808 by omega]
   have p7 := H_p6.out
   rw [e5] at p7
   have hB := H_hr.out
   have hlt : ∀ a ∈ (L.set off (2 * r % 18446744073709551616)).set (off + 1) (r / 9223372036854775808), a < 18446744073709551616 := by
    intro a ha
    rcases List.mem_or_eq_of_mem_set ha with ha | rfl
    · rcases List.mem_or_eq_of_mem_set ha with ha | rfl
      · exact h3.out a ha
      · exact Nat.mod_lt _ (by omega)
    · omega
   have hna : NatAt w3 (.slice (some ⟨g, off, none⟩) 2 cap) [2 * r % 18446744073709551616, r / 9223372036854775808] := by
    have := NatAt.mk (n := 2) (off := off) hcap p7.blk (by omega) (by rw [List.length_set, List.length_set]; exact h2.out) hlt
    rw [seg_head (by rw [List.length_set, List.length_set]; have := h2.out; omega), seg_head (by rw [List.length_set, List.length_set]; have := h2.out; omega), seg_zero,
     getD_set _ _ _ _ (by rw [List.length_set]; have := h2.out; omega), if_neg (by omega), getD_set _ _ _ _ (by have := h2.out; omega), if_pos rfl,
     getD_set _ _ _ _ (by rw [List.length_set]; have := h2.out; omega), if_pos rfl] at this
    exact this
   have hno := norm_any _ _ _ (by simp) hna
   have hvv : val [2 * r % 18446744073709551616, r / 9223372036854775808] = 2 * r := by simp only [val]; omega
   rw [hvv] at hno
   clear wr6 e5 hlt hvv hB
   have H_hna := hid hna; have H_hno := hid hno; have H_p7 := hid p7; clear hna hno p7
   refine H_hno.out.mono ?_
   rintro e w7 ⟨rv, l, rfl, h6, hnorm, hval, hown, rfl⟩
   have H_h6 := hid h6; have H_hnorm := hid hnorm; have H_hval := hid hval; have H_hown := hid hown; clear h6 hnorm hval hown
   go_wp2
   go_ret
   exact ⟨rv, l, rfl, NatOp.of h5.out h4.out H_p7.out.keep H_h6.out (fun k hk => by have := H_hown.out k hk; simpa [Value.ownBlock] using this.symm), H_hnorm.out, H_hval.out⟩

theorem lsh_more (zv : Value) (zl : List Nat) (w : World) (hn : 2 ≤ zl.length) (hn2 : zl.length ≤ 1000) (h : NatAt w zv zl) :
 Calls Tryz.prog 148 #[zv, zv, .int .u64 1] w (NatRet w zv (2 * val zl)) := by
 obtain ⟨gx, ox, cx, M, hzv, bx, hx1, hx2, hx3, hx4⟩ := h.open_pos (by omega)
 have hm := make_any zv zl (zl.length + 1) w (by omega) (by omega) h
 have hgx := bx.lt
 have hbnd := h.bnd
 have hsv := shlL_val (s := 1) (by omega) zl 0
 generalize hN : zl.length = N at *
 obtain ⟨N1, hN1⟩ : ∃ a, a = N + 1 := ⟨_, rfl⟩
 have iN1 : (N : Int) + 1 = (N1 : Int) := by omega
 have wN1 : IntKind.i64.wrap (N1 : Int) = (N1 : Int) := by rw [IntKind.wrap_i64]; omega
 have wN : IntKind.i64.wrap (N : Int) = (N : Int) := by rw [IntKind.wrap_i64]; omega
 have lN : (N : Int) < (N1 : Int) := by omega
 have t0 : ((N : Int) == 0) = false := by rw [beq_eq_false_iff_ne]; omega
 rw [← hN1] at hm
 obtain ⟨cc, hcc⟩ : ∃ c, c = lastW zl 0 / 2 ^ (64 - 1) := ⟨_, rfl⟩
 have hcb : cc < 18446744073709551616 := by
  rw [hcc]
  refine Nat.lt_of_le_of_lt (Nat.div_le_self _ _) ?_
  rw [lastW_getD zl 0 (by omega)]
  exact getD_lt hbnd pos64 _
 rw [← hcc, Nat.zero_div, Nat.add_zero] at hsv
 have hsl : (shlL zl 0 1).length = N := by rw [shlL_length, hN]
 have hsb := shlL_lt (s := 1) (by omega) zl 0 hbnd (by omega)
 obtain ⟨us, hus⟩ : ∃ us, us = shlL zl 0 1 := ⟨_, rfl⟩
 rw [← hus] at hsv hsl hsb
 subst hzv
 have H_h := hid h; have H_hm := hid hm; have H_bx := hid bx; have H_hx1 := hid hx1; have H_hx2 := hid hx2; have H_hx3 := hid hx3; have H_hx4 := hid hx4; have H_hgx := hid hgx; have H_hbnd := hid hbnd; have H_hsv := hid hsv; have H_hN := hid hN; have H_hN1 := hid hN1; have H_hn := hid hn; have H_hn2 := hid hn2; have H_hcc := hid hcc; have H_hcb := hid hcb; have H_hsl := hid hsl; have H_hsb := hid hsb; have H_hus := hid hus; clear h hm bx hx1 hx2 hx3 hx4 hgx hbnd hsv hN hN1 hn hn2 hcc hcb hsl hsb hus
 go_enter Tryz.func148, Tryz.ntmps148
 go_wp2_with (fail)
 refine H_hm.out.mono ?_
 intro e w1 hm
 obtain ⟨g, off, cap, L, rfl, hb, h1, h2, h3, h4, h5, hcap⟩ := hm.split
 clear hm
 have hal : gx ≠ g ∨ ox = off := by
  rcases h5.out with ⟨n0, c0, hq⟩ | hq
  · simp only [Value.slice.injEq, Option.some.injEq, Addr.mk.injEq] at hq
    exact .inr hq.1.2.1
  · have := H_hgx.out; exact .inl (by omega)
 have hl := lshVU_any g off cap gx ox cx N 1 L M w1 (by have := H_hn.out; omega) (by have := H_hn2.out; omega) (by omega) (by omega) hb.out (H_bx.out.keep h4.out (fun h => h)) (by have := h2.out; have := H_hN1.out; omega) (by have := H_hx2.out; have := H_hx1.out; omega) H_hx4.out hal
 rw [show seg M ox N = zl from H_hx3.out.symm, ← H_hcc.out, ← H_hus.out] at hl
 have lNc : (N : Int) ≤ (cap : Int) := by have := h1; have := H_hN1.out; omega
 have H_hl := hid hl; clear hl
 go_wp2_with (fail)
 refine H_hl.out.mono ?_
 rintro e w2 ⟨rfl, hp⟩
 obtain ⟨k2, b2⟩ := hp.out
 have hlen2 : (spl L off us).length = L.length := sgl (by have := h2.out; have := H_hsl.out; have := H_hN1.out; omega)
 have cc1 := b2.cell (o := off + N) (by have := h2.out; have := H_hN1.out; rw [hlen2]; omega)
 have cc2 := b2.frozen (off + N)
 have p6 := (Puts.refl b2).set (off + N) cc
 rw [spl_set (by rw [H_hsl.out]) (by have := h2.out; have := H_hN1.out; omega)] at p6
 generalize (spl L off us).getD (off + N) 0 = z9 at *
 clear hp hlen2
 have H_k2 := hid k2; have H_b2 := hid b2; have H_p6 := hid p6; clear k2 b2 p6
 go_wp2_with (refine wpList_clear_none (o := ⟨none, _, _, _, _, _⟩) rfl (.tmp 68) 108 rfl 123 Tryz.underlying108 _ _ (by rfl) ?_)
 generalize w2.setCell ⟨g, off + N, none⟩ (.int .u64 (cc : Int)) = w3 at *
 have hna : NatAt w3 (.slice (some ⟨g, off, none⟩) N1 cap) (us ++ [cc]) := by
  have := NatAt.spl hcap H_p6.out.blk (cap := cap) (by have := H_hsl.out; have := H_hN1.out; simp; omega) (by have := h2.out; omega) h3.out (fun a ha => by
   rcases List.mem_append.1 ha with h | h
   · exact H_hsb.out a h
   · rw [List.mem_singleton.1 h]; exact H_hcb.out)
  rw [show (us ++ [cc]).length = N1 by have := H_hsl.out; have := H_hN1.out; simp; omega] at this
  exact this
 have hno := norm_any _ _ _ (by have := H_hsl.out; have := H_hn2.out; simp; omega) hna
 have hvv : val (us ++ [cc]) = 2 * val zl := by
  rw [val_snoc, H_hsl.out]
  have := H_hsv.out
  omega
 rw [hvv] at hno
 clear hvv
 have H_hna := hid hna; have H_hno := hid hno; clear hna hno
 refine H_hno.out.mono ?_
 rintro e w7 ⟨rv, l, rfl, h6, hnorm, hval, hown, rfl⟩
 have H_h6 := hid h6; have H_hnorm := hid hnorm; have H_hval := hid hval; have H_hown := hid hown; clear h6 hnorm hval hown
 go_wp2
 go_ret
 exact ⟨rv, l, rfl, NatOp.of h5.out h4.out (H_k2.out.trans H_p6.out.keep (fun _ _ h => h) (fun _ _ h => h)) H_h6.out (fun k hk => by have := H_hown.out k hk; simpa [Value.ownBlock] using this.symm), H_hnorm.out, H_hval.out⟩

theorem lsh_all (zv : Value) (zl : List Nat) (w : World) (hn2 : zl.length ≤ 1000) (h : NatAt w zv zl) :
 Calls Tryz.prog 148 #[zv, zv, .int .u64 1] w (NatRet w zv (2 * val zl)) := by
 rcases Nat.lt_or_ge 1 zl.length with h1 | h1
 · exact lsh_more zv zl w h1 hn2 h
 · exact lsh_word zv zv zl zl w h1 h h (.inl rfl)

theorem Lsh_all (b n : Nat) (vz : Value) (w : World) (hn : n < wpow 39) (hz : BI w b vz n) :
 Calls Tryz.prog 117 #[.pointer (some ⟨b, 0, none⟩), .pointer (some ⟨b, 0, none⟩), .int .u64 1] w (IntRet w b 0 vz ((2 * n : Nat) : Int)) := by
 obtain ⟨lz, hz, rfl⟩ := hz
 have hl : lz.length ≤ 39 := hz.norm.len_le hn
 have hc := lsh_all vz lz w.drew (by omega) hz.nat.drew
 have cz1 := hz.str.c1
 rw [Nat.zero_add] at cz1
 have nz : ¬ (vz.ownBlock = some b) := fun e => IntIs.ne hz.str hz.nat e rfl
 clear hn hl
 have H_hc := hid hc; have H_hz := hid hz; have H_nz := hid nz; clear hc hz nz
 go_enter Tryz.func117, Tryz.ntmps117
 go_wp2_with (fail)
 refine rgE (S := (fun (w' : World) => w'.cell? ⟨b, 1, none⟩ = some vz)) 13 (by kernel_rfl) (by exact cz1) (fun hHeld => ?_)
 refine tkP (i := 0) (v := ?v0_1) rfl (by kernel_rfl) (fun _ _ _ h => h) ⟨by rfl, ?y0_1⟩ (by assumption) ?r0_1
 case y0_1 => (intro w; go_simp; try with_reducible rfl)
 try simp only [Act.put, yA, yB, yD, yE, yF]
 refine tkP (i := 1) (v := ?v1_1) rfl (by kernel_rfl) (fun _ _ _ h => h) ⟨by rfl, ?y1_1⟩ (by assumption) ?r1_1
 case y1_1 => (intro w; go_simp; try with_reducible rfl)
 try simp only [Act.put, yA, yB, yC, yD, yE, yF]
 refine tkP (i := 2) (v := ?v2_1) rfl (by kernel_rfl) (fun _ _ _ h => h) ⟨by rfl, ?y2_1⟩ (by assumption) ?r2_1
 case y2_1 => (intro w; go_simp; try with_reducible rfl)
 try simp only [Act.put, yA, yB, yC, yD, yE, yF]
 refine tkP (i := 3) (v := ?v3_1) rfl (by kernel_rfl) (fun _ _ _ h => h) ⟨by rfl, ?y3_1⟩ (by assumption) ?r3_1
 case y3_1 => (intro w; go_simp; try with_reducible rfl)
 try simp only [Act.put, yA, yB, yC, yD, yE, yF]
 refine tkL (i := 4) (c := 10) (v := ?v4_1) rfl (by kernel_rfl) (fun _ _ _ h => h) ⟨by rfl, ?y4_1⟩ (by assumption) ?r4_1
 case y4_1 => (intro w hSw; go_split_ands; go_simp; try with_reducible rfl)
 try simp only [Act.put, yA, yB, yC, yD, yE, yF]
 refine tkP (i := 5) (v := ?v5_1) rfl (by kernel_rfl) (fun _ _ _ h => h) ⟨by rfl, ?y5_1⟩ (by assumption) ?r5_1
 case y5_1 => (intro w; go_simp; try with_reducible rfl)
 try simp only [Act.put, yA, yB, yC, yD, yE, yF]
 refine tkP (i := 6) (v := ?v6_1) rfl (by kernel_rfl) (fun _ _ _ h => h) ⟨by rfl, ?y6_1⟩ (by assumption) ?r6_1
 case y6_1 => (intro w; go_simp; try with_reducible rfl)
 try simp only [Act.put, yA, yB, yC, yD, yE, yF]
 refine tkP (i := 7) (v := ?v7_1) rfl (by kernel_rfl) (fun _ _ _ h => h) ⟨by rfl, ?y7_1⟩ (by assumption) ?r7_1
 case y7_1 => (intro w; go_simp; try with_reducible rfl)
 try simp only [Act.put, yA, yB, yC, yD, yE, yF]
 refine tkL (i := 8) (c := 10) (v := ?v8_1) rfl (by kernel_rfl) (fun _ _ _ h => h) ⟨by rfl, ?y8_1⟩ (by assumption) ?r8_1
 case y8_1 => (intro w hSw; go_split_ands; go_simp; try with_reducible rfl)
 try simp only [Act.put, yA, yB, yC, yD, yE, yF]
 refine tkP (i := 9) (v := ?v9_1) rfl (by kernel_rfl) (fun _ _ _ h => h) ⟨by rfl, ?y9_1⟩ (by assumption) ?r9_1
 case y9_1 => (intro w; go_simp; try with_reducible rfl)
 try simp only [Act.put, yA, yB, yC, yD, yE, yF]
 refine tkO (i := 10) rfl (by kernel_rfl) (fun K hK => ?_)
 go_simp
 refine H_hc.out.mono ?_; rintro e w1 hr; obtain ⟨rv, l, rfl, hop, hnorm, hval⟩ := hr; have hop := hop.of_drew; have kz := (H_hz.out.str.keep hop.keep H_nz.out).c1; have kf := (H_hz.out.str.keep hop.keep H_nz.out).f1; have kf0 := (H_hz.out.str.keep hop.keep H_nz.out).f0; have kz0 := (H_hz.out.str.keep hop.keep H_nz.out).c0; rw [Nat.zero_add] at kz kf; obtain ⟨ra, rc, hrv⟩ := hop.nat.form; generalize hll : l.length = nl at *; subst hrv; have H_hop := hid hop; have H_hnorm := hid hnorm; have H_hval := hid hval; have H_hll := hid hll; clear hop hnorm hval hll
 go_wp2_with (fail)
 have hHeldB : ((fun (w' : World) => w'.cell? ⟨b, 1, none⟩ = some vz)) _ := kz
 refine hK.out _ _ (fun _ => hHeldB) ?_
 clear hK K
 try simp only [Act.put, yA, yB, yC, yD, yE, yF]
 refine tkP (i := 11) (v := ?v11_1) rfl (by kernel_rfl) (fun _ _ _ h => h) ⟨by rfl, ?y11_1⟩ (by assumption) ?r11_1
 case y11_1 => (intro w; go_simp; try with_reducible rfl)
 try simp only [Act.put, yA, yB, yC, yD, yE, yF]
 refine tkP (i := 12) (v := ?v12_1) rfl (by kernel_rfl) (fun _ _ _ h => h) ⟨by rfl, ?y12_1⟩ (by assumption) ?r12_1
 case y12_1 => (intro w; go_simp; try with_reducible rfl)
 try simp only [Act.put, yA, yB, yC, yD, yE, yF]
 refine tkO (i := 13) rfl (by kernel_rfl) (fun K hK => ?_)
 go_simp
 refine hK.out _ _ (fun h => Bool.noConfusion (show true = false from h)) ?_
 clear hK K
 try simp only [Act.put, yA, yB, yC, yD, yE, yF]
 refine tkD (by kernel_rfl) ?_ _
 clear hHeldB
 have kz0' : (w1.setCell ⟨b, 1, none⟩ (.slice ra nl rc)).cell? ⟨b, 0, none⟩ = some (.bool false) := (cell?_setCell_ne (.inr (by simp))).trans kz0
 have kf0' : (w1.setCell ⟨b, 1, none⟩ (.slice ra nl rc)).frozen? ⟨b, 0, none⟩ = false := (frozen?_setCell' _ _ _ _).trans kf0
 clear cz1 kz kf kf0 kz0
 go_wp2_with (fail)
 go_ret
 exact ⟨rfl, IntIs.made H_hz.out.str H_hz.out.nat H_hop.out H_hnorm.out false (fun _ => rfl) _ (by simp [ival, H_hval.out]) rfl⟩

theorem ZI.setAbs {w : World} {b : Nat} {v : Value} {z : Int} (h : ZI w b v z) : ZI (w.setCell ⟨b, 0, none⟩ (.bool false)) b v (z.natAbs : Int) := by
 obtain ⟨neg, l, hi, e⟩ := h
 exact ⟨false, l, ⟨hi.str.set0 false, setCell_natAt hi.nat (fun g hg => IntIs.ne hi.str hi.nat hg) _, hi.norm, fun _ => rfl⟩, by rw [← e, ival_abs]; simp [ival]⟩

theorem ZI.bi {w : World} {b n : Nat} {v : Value} (h : ZI w b v (n : Int)) : BI w b v n := by
 obtain ⟨neg, l, hi, e⟩ := h
 have hv : val l = n := by rw [← ival_abs neg l, e]; simp
 have hn : neg = false := by
  cases neg
  · rfl
  · have h0 : val l = 0 := by simp only [ival, if_true] at e; omega
    exact hi.zero (val_nil_of hi.norm h0)
 subst hn
 exact ⟨l, hi, hv⟩

theorem IntAbs_z (bz bx : Nat) (vz vx : Value) (z x : Int) (w : World) (hlx : x.natAbs < wpow 39) (hne : bz ≠ bx) (hz : ZI w bz vz z) (hx : ZI w bx vx x) (hs : Sep vz vx) :
 Calls Tryz.prog 116 #[.pointer (some ⟨bz, 0, none⟩), .pointer (some ⟨bx, 0, none⟩)] w (fun e w' => e = .returned (.pointer (some ⟨bz, 0, none⟩)) ∧ ZSet w bz vz (x.natAbs : Int) w') := by
 have hc := IntSet_z bz bx vz vx z x w hlx hne hz hx hs
 have H_hc := hid hc; have H_hz := hid hz; have H_hx := hid hx; have H_hs := hid hs; have H_hlx := hid hlx; have H_hne := hid hne; clear hc hz hx hs hlx hne
 go_enter Tryz.func116, Tryz.ntmps116
 go_wp2_with (fail)
 refine H_hc.out.mono ?_
 rintro e w1 ⟨rfl, v1, z1, k1, o1⟩
 have kz := z1
 obtain ⟨neg, l, hi, -⟩ := kz
 have c0 := hi.str.c0
 have f0 := hi.str.f0
 clear hi
 have H_z1 := hid z1; have H_k1 := hid k1; have H_o1 := hid o1; clear z1 k1 o1
 go_wp2_with (fail)
 go_ret
 exact ⟨rfl, v1, H_z1.out.setAbs, H_k1.out.setCell (p := ⟨bz, 0, none⟩) (fun _ => .inl rfl) _, H_o1.out⟩

theorem IntLsh_z (b n : Nat) (v : Value) (w : World) (hn : n < wpow 39) (hz : ZI w b v (n : Int)) :
 Calls Tryz.prog 117 #[.pointer (some ⟨b, 0, none⟩), .pointer (some ⟨b, 0, none⟩), .int .u64 1] w (fun e w' => e = .returned (.pointer (some ⟨b, 0, none⟩)) ∧ ZSet w b v ((2 * n : Nat) : Int) w') :=
 (Lsh_all b n v w hn hz.bi).mono fun _ _ h => h.zset

theorem IntCmpAbs_z (b1 b2 : Nat) (v u : Value) (x y : Int) (w : World) (hlx : x.natAbs < wpow 39) (hly : y.natAbs < wpow 39) (hx : ZI w b1 v x) (hy : ZI w b2 u y) :
 Calls Tryz.prog 118 #[.pointer (some ⟨b1, 0, none⟩), .pointer (some ⟨b2, 0, none⟩)] w (fun e w' => e = .returned (.int .i64 (cmpN x.natAbs y.natAbs)) ∧ Fresh w w') := by
 obtain ⟨n1, l, hx, rfl⟩ := hx
 obtain ⟨n2, k, hy, rfl⟩ := hy
 have h1 := hx.len rfl hlx
 have h2 := hy.len rfl hly
 rw [ival_abs, ival_abs]
 have hc := nat_cmp v u l k w.drew (by omega) (by omega) hx.nat.drew hy.nat.drew hx.norm hy.norm
 have cx1 := hx.str.c1; have cy1 := hy.str.c1
 rw [Nat.zero_add] at cx1 cy1
 clear hlx hly h1 h2
 generalize cmpN (val l) (val k) = c at *
 have H_hx := hid hx; have H_hy := hid hy; have H_hc := hid hc; clear hx hy hc
 go_enter Tryz.func118, Tryz.ntmps118
 go_wp2_with (fail)
 refine rgE (S := (fun (w' : World) => w'.cell? ⟨b1, 1, none⟩ = some v ∧ w'.cell? ⟨b2, 1, none⟩ = some u)) 9 (by kernel_rfl) (by exact ⟨cx1, cy1⟩) (fun hHeld => ?_)
 refine tkP (i := 0) (v := ?v0_1) rfl (by kernel_rfl) (fun _ _ _ h => h) ⟨by rfl, ?y0_1⟩ (by assumption) ?r0_1
 case y0_1 => (intro w; go_simp; try with_reducible rfl)
 try simp only [Act.put, yA, yB, yD, yE, yF]
 refine tkP (i := 1) (v := ?v1_1) rfl (by kernel_rfl) (fun _ _ _ h => h) ⟨by rfl, ?y1_1⟩ (by assumption) ?r1_1
 case y1_1 => (intro w; go_simp; try with_reducible rfl)
 try simp only [Act.put, yA, yB, yC, yD, yE, yF]
 refine tkP (i := 2) (v := ?v2_1) rfl (by kernel_rfl) (fun _ _ _ h => h) ⟨by rfl, ?y2_1⟩ (by assumption) ?r2_1
 case y2_1 => (intro w; go_simp; try with_reducible rfl)
 try simp only [Act.put, yA, yB, yC, yD, yE, yF]
 refine tkL (i := 3) (c := 8) (v := ?v3_1) rfl (by kernel_rfl) (fun _ _ _ h => h) ⟨by rfl, ?y3_1⟩ (by assumption) ?r3_1
 case y3_1 => (intro w hSw; go_split_ands; go_simp; try with_reducible rfl)
 try simp only [Act.put, yA, yB, yC, yD, yE, yF]
 refine tkP (i := 4) (v := ?v4_1) rfl (by kernel_rfl) (fun _ _ _ h => h) ⟨by rfl, ?y4_1⟩ (by assumption) ?r4_1
 case y4_1 => (intro w; go_simp; try with_reducible rfl)
 try simp only [Act.put, yA, yB, yC, yD, yE, yF]
 refine tkP (i := 5) (v := ?v5_1) rfl (by kernel_rfl) (fun _ _ _ h => h) ⟨by rfl, ?y5_1⟩ (by assumption) ?r5_1
 case y5_1 => (intro w; go_simp; try with_reducible rfl)
 try simp only [Act.put, yA, yB, yC, yD, yE, yF]
 refine tkP (i := 6) (v := ?v6_1) rfl (by kernel_rfl) (fun _ _ _ h => h) ⟨by rfl, ?y6_1⟩ (by assumption) ?r6_1
 case y6_1 => (intro w; go_simp; try with_reducible rfl)
 try simp only [Act.put, yA, yB, yC, yD, yE, yF]
 refine tkL (i := 7) (c := 8) (v := ?v7_1) rfl (by kernel_rfl) (fun _ _ _ h => h) ⟨by rfl, ?y7_1⟩ (by assumption) ?r7_1
 case y7_1 => (intro w hSw; go_split_ands; go_simp; try with_reducible rfl)
 try simp only [Act.put, yA, yB, yC, yD, yE, yF]
 refine tkO (i := 8) rfl (by kernel_rfl) (fun K hK => ?_)
 go_simp
 refine H_hc.out.mono ?_; rintro e w1 ⟨rfl, nd, rfl⟩; have y : Fresh w (w.drew.drewN nd) := ((Keep.refl _ w).drew).drewN nd; have m0 := cfr cx1 y; have m1 := cfr cy1 y; have H_y := hid y; clear y
 go_wp2_with (fail)
 have hHeld1 : ((fun (w' : World) => w'.cell? ⟨b1, 1, none⟩ = some v ∧ w'.cell? ⟨b2, 1, none⟩ = some u)) _ := ⟨m0, m1⟩
 refine hK.out _ _ (fun _ => hHeld1) ?_
 clear hK K
 try simp only [Act.put, yA, yB, yC, yD, yE, yF]
 refine tkO (i := 9) rfl (by kernel_rfl) (fun K hK => ?_)
 go_simp
 refine hK.out _ _ (fun h => Bool.noConfusion (show true = false from h)) ?_
 clear hK K
 try simp only [Act.put, yA, yB, yC, yD, yE, yF]
 refine tkD (by kernel_rfl) ?_ _
 go_wp2_with (fail)
 go_ret
 exact ⟨rfl, (Keep.refl _ w).drewN _⟩

theorem IntAdd_z (bz bx bY : Nat) (vz vx vy : Value) (z x y : Int) (w : World) (hlx : x.natAbs < wpow 39) (hly : y.natAbs < wpow 39) (hz : ZI w bz vz z) (hx : ZI w bx vx x) (hy : ZI w bY vy y) (hsx : Sep vz vx) (hsy : Sep vz vy) :
 Calls Tryz.prog 114 #[.pointer (some ⟨bz, 0, none⟩), .pointer (some ⟨bx, 0, none⟩), .pointer (some ⟨bY, 0, none⟩)] w (fun e w' => e = .returned (.pointer (some ⟨bz, 0, none⟩)) ∧ ZSet w bz vz (x + y) w') := by
 obtain ⟨nz, lz, hz, _⟩ := hz
 obtain ⟨nx, lx, hx, rfl⟩ := hx
 obtain ⟨ny, ly, hy, rfl⟩ := hy
 have h1 := hx.len rfl hlx
 have h2 := hy.len rfl hly
 exact (Int_Add bz 0 bx 0 bY 0 nz nx ny vz vx vy lz lx ly w (by omega) (by omega) hz hx hy hsx hsy).mono fun _ _ h => h.zset

theorem ZSet.own {w0 w w' : World} {b : Nat} {v0 : Value} {z : Int} (h : ZSet w b v0 z w') (hf : Fresh w0 w) (hb : w0.heap.size ≤ b) (ho : ∀ k, v0.ownBlock = some k → w0.heap.size ≤ k) : ∃ v, ZI w' b v z ∧ Fresh w0 w' ∧ (∀ k, v.ownBlock = some k → w0.heap.size ≤ k) := by
 obtain ⟨v, h1, h2, h3⟩ := h
 refine ⟨v, h1, ?_, fun k hk => ?_⟩
 · refine hf.trans h2 (fun _ _ h => h) (fun k hk h => ?_)
   rcases h with h | h
   · omega
   · have := ho k h; omega
 · rcases h3 k hk with h | h
   · exact ho k h
   · exact Nat.le_trans hf.size h

theorem IntSub_z (bz bx bY : Nat) (vz vx vy : Value) (z x y : Int) (w : World) (hlx : x.natAbs < wpow 39) (hly : y.natAbs < wpow 39) (hz : ZI w bz vz z) (hx : ZI w bx vx x) (hy : ZI w bY vy y) (hsx : Sep vz vx) (hsy : Sep vz vy) :
 Calls Tryz.prog 119 #[.pointer (some ⟨bz, 0, none⟩), .pointer (some ⟨bx, 0, none⟩), .pointer (some ⟨bY, 0, none⟩)] w (fun e w' => e = .returned (.pointer (some ⟨bz, 0, none⟩)) ∧ ZSet w bz vz (x - y) w') := by
 obtain ⟨nz, lz, hz, _⟩ := hz
 obtain ⟨nx, lx, hx, rfl⟩ := hx
 obtain ⟨ny, ly, hy, rfl⟩ := hy
 have h1 := hx.len rfl hlx
 have h2 := hy.len rfl hly
 exact (Int_Sub bz 0 bx 0 bY 0 nz nx ny vz vx vy lz lx ly w (by omega) (by omega) hz hx hy hsx hsy).mono fun _ _ h => h.zset

end Go.Proofs.YtllencgncinphaaGreatDoor
