/- FnFintQuo: the quotient of two whole numbers of 64 bits. -/
import Derived.Test.YtmgidnjpkbgmgabGreatDoorKB8
import Derived.Test.YtmgidnjpkbgmgabGreatDoorKB9
import Derived.Test.YtmgidnjpkbgmgabGreatDoorKB11
import Derived.Test.YtmgidnjpkbgmgabGreatDoorKB12
import Derived.Test.YtmgidnjpkbgmgabGreatDoorKB13
namespace Go.Proofs.YtmgidnjpkbgmgabGreatDoor
open Go.RowKit

theorem NatDiv_any (av bv : Value) (al bl : List Nat) (w : World) (ha : SNat w av al) (hb : SNat w bv bl) (hna : Norm al) (hnb : Norm bl) (hlen : al.length ≤ 1000) (hb0 : 0 < sval bl) :
    Calls Tryz.prog 68 #[av, bv] w (QRet w (sval al / sval bl) (sval al % sval bl)) := by
  rcases Nat.lt_or_ge (sval al) (sval bl) with h | h
  · rw [Nat.div_eq_of_lt h, Nat.mod_eq_of_lt h]
    exact NatDiv_less av bv al bl w ha hb hna hnb hlen h
  · by_cases h1 : 1 < bl.length
    · exact NatDiv_long av bv al bl w ha hb hna hnb hlen h1 h
    · match bl, hb, hnb, hb0, h, h1 with
      | [], _, _, hb0, _, _ => simp [sval] at hb0
      | [b], hb, _, hb0, h, _ =>
        have e : sval [b] = b := by simp [sval]
        rw [e] at hb0 h ⊢
        exact NatDiv_one av bv al b w ha hb hna hb0 hlen h
      | _ :: _ :: _, _, _, _, _, h1 => simp at h1

end Go.Proofs.YtmgidnjpkbgmgabGreatDoor

/- The contracts of the reference's rounding: rounds and Frac.Round, half to even. -/
namespace Go.Proofs.YtmgidnjpkbgmgabGreatDoor
open Go.RowKit

theorem rounds_he (neg odd : Bool) (z : Int) (w : World) :
    Calls Tryz.prog 107 #[.int .i64 5, .bool neg, .int .i64 z, .bool odd] w (fun e w' => e = .returned (.bool (decide (0 < z) || (decide (z = 0) && odd))) ∧ w' = w) := by
  rcases Int.lt_trichotomy z 0 with h | h | h
  · have e : (decide (0 < z) || (decide (z = 0) && odd)) = false := by rw [decide_eq_false (by omega), decide_eq_false (by omega)]; rfl
    rw [e]
    have t1 : decide (0 < z) = false := by simp; omega
    have t2 : (z == 0) = false := by rw [beq_eq_false_iff_ne]; omega
    have h1 : ¬ z = 0 := by omega
    have h2 : ¬ 0 < z := by omega
    clear e
    go_enter Tryz.func107, Tryz.ntmps107
    go_wp2
    go_ret
    exact ⟨rfl, rfl⟩
  · subst h
    have e : (decide ((0 : Int) < 0) || (decide ((0 : Int) = 0) && odd)) = odd := by simp
    rw [e]
    clear e
    go_enter Tryz.func107, Tryz.ntmps107
    go_wp2
    go_ret
    exact ⟨rfl, rfl⟩
  · have e : (decide (0 < z) || (decide (z = 0) && odd)) = true := by rw [decide_eq_true h]; rfl
    rw [e]
    have t1 : decide (0 < z) = true := by simp; omega
    clear e
    go_enter Tryz.func107, Tryz.ntmps107
    go_wp2
    go_ret
    exact ⟨rfl, rfl⟩

/-- the value is a decimal number with coefficient z and s places -/
def RdIs (w : World) (x : Value) (z : Int) (s : Nat) : Prop := ∃ nb v l, x = .agg #[.bool nb, v, .int .i64 (-(s : Int))] ∧ SNat w v l ∧ Norm l ∧ (l = [] → nb = false) ∧ sint nb l = z

theorem RdIs.fresh {w w' : World} {x : Value} {z : Int} {s : Nat} (h : RdIs w x z s) (hk : Fresh w w') : RdIs w' x z s := by
  obtain ⟨nb, v, l, h1, h2, h3⟩ := h
  exact ⟨nb, v, l, h1, h2.fresh hk, h3⟩

def RdRet (w : World) (z : Int) (s : Nat) (e : Ending) (w' : World) : Prop := ∃ x, e = .returned x ∧ RdIs w' x z s ∧ Fresh w w'

theorem low_odd {l : List Nat} : sval l % 2 = l.getD 0 0 % 2 := by
  cases l with
  | nil => rfl
  | cons x xs => simp only [sval, List.getD_cons_zero]; omega

theorem rhe_up {a b q r : Nat} (hq : q = a / b) (hr : r = a % b) : rhe a b = q + (if (decide (0 < cmpN (r + r) b) || (decide (cmpN (r + r) b = 0) && decide (q % 2 = 1))) = true then 1 else 0) := by
  unfold rhe
  rw [← hq, ← hr]
  congr 1
  have h : (b < 2 * r ∨ (2 * r = b ∧ q % 2 = 1)) ↔ (decide (0 < cmpN (r + r) b) || (decide (cmpN (r + r) b = 0) && decide (q % 2 = 1))) = true := by
    simp only [Bool.or_eq_true, Bool.and_eq_true, decide_eq_true_eq]
    rcases Nat.lt_trichotomy (r + r) b with h | h | h
    · rw [cmpN_lt h]; omega
    · subst h; rw [cmpN_eq]; omega
    · rw [cmpN_gt h]; omega
  simp only [h]

theorem pow_spow {p n : Nat} (h : p < 9 * n) : 10 ^ p < spow n := by
  rw [spow_ten]
  exact Nat.pow_lt_pow_right (by omega) h

theorem sint_sgn {neg : Bool} {l m : List Nat} {n : Nat} (hl : Norm l) (hm : Norm m) (hc : l = [] → neg = false) (hv : sval m = n) (_h0 : sval l = 0 → n = 0) : sint (neg && decide (0 < m.length)) m = sgnN (sint neg l) n := by
  rw [sint_canon _ hm]
  unfold sgnN
  cases neg
  · have e : ¬ sint false l < 0 := by simp [sint]
    rw [if_neg e]
    simp [sint, hv]
  · have hp := sint_pos hl (fun e => by have := hc e; simp at this)
    have e : sint true l < 0 := by simp [sint]; omega
    rw [if_pos e]
    simp [sint, hv]

set_option maxRecDepth 20000 in
set_option maxHeartbeats 8000000 in
theorem RoundHE_any (xw : Value) (z : Int) (d p : Nat) (w : World) (hx : SFr w xw z d) (hd : 0 < d) (hz : z.natAbs < spow 300) (hdd : d < spow 300) (hp : p ≤ 1000) :
    Calls Tryz.prog 72 #[xw, .int .i64 p, .int .i64 5] w (RdRet w (sgnN z (rhe (z.natAbs * 10 ^ p) d)) p) := by
  obtain ⟨na, va, la, dv, dl, rfl, ha, hna, hca, rfl, hda, hdna, rfl⟩ := hx
  rw [sint_natAbs] at hz ⊢
  have l1 := hna.s_len_le hz
  have l2 := hdna.s_len_le hdd
  have tw : IntKind.i64.wrap (-(p : Int)) = -(p : Int) := by rw [IntKind.wrap_i64]; omega
  have h0 : sval la = 0 → rhe (sval la * 10 ^ p) (sval dl) = 0 := fun h => rhe_exact hd (by rw [h, Nat.zero_mul, Nat.zero_mul])
  obtain ⟨aa, ca, rfl⟩ := ha.form
  obtain ⟨ad, cd, rfl⟩ := hda.form
  obtain ⟨g, hg⟩ : ∃ g, g = w.heap.size := ⟨_, rfl⟩
  have bx := boxes2 w #[.bool na, .slice aa la.length ca, .slice ad dl.length cd] #[.bool false, .slice none 0 0, .int .i64 0] 39 45 g hg
  have t1 : decide (0 ≤ (p : Int)) = true := by simp
  have hp10 := fun W => Pow10_any p W (by omega)
  have H_bx := Lib.hid bx; clear bx
  have H_ha := Lib.hid ha; clear ha
  have H_hda := Lib.hid hda; clear hda
  have H_hna := Lib.hid hna; clear hna
  have H_hdna := Lib.hid hdna; clear hdna
  have H_hca := Lib.hid hca; clear hca
  have H_hz := Lib.hid hz; clear hz
  have H_hdd := Lib.hid hdd; clear hdd
  have H_hd := Lib.hid hd; clear hd
  have H_hp10 := Lib.hid hp10; clear hp10
  have H_h0 := Lib.hid h0; clear h0
  go_enter Tryz.func72, Tryz.ntmps72
  go_wp2_with (fail)
  generalize hw1 : (w.alloc _).alloc _ = w1
  rw [← hg]
  obtain ⟨b1, b2, hf⟩ := H_bx.out w1 hw1
  have k0 := row_cell b1 0
  have k1 := row_cell b1 1
  have k2 := row_cell b1 2
  simp at k0 k1 k2
  have H_b1 := Lib.hid b1; clear b1
  have H_b2 := Lib.hid b2; clear b2
  have H_hf := Lib.hid hf; clear hf
  have H_hw1 := Lib.hid hw1; clear hw1
  have H_hg := Lib.hid hg; clear hg
  go_wp2_with (go_quiet (fail))
  refine (H_hp10.out _).mono ?_
  rintro e w2 ⟨pv, pl, rfl, p1, p2, p3, p4⟩
  have f2 : Fresh w1 w2 := by first | exact p4 | exact p4.of_drew | exact p4.of_drewN
  obtain ⟨ap, cp, rfl⟩ := p1.form
  have k0 := cell_fresh k0 f2
  have hpl : pl.length ≤ 300 := p2.s_len_le (by rw [p3]; exact pow_spow (by omega))
  have hmul := NatMul_any _ _ la pl w2 ((H_ha.out.fresh H_hf.out).fresh f2) p1 (by omega)
  rw [p3] at hmul
  have b2 := row_fresh H_b2.out f2
  have f2 := fresh_trans H_hf.out f2
  clear p1 p2 p4 k1 k2 H_b2
  have H_p3 := Lib.hid p3; clear p3
  have H_f2 := Lib.hid f2; clear f2
  have H_hmul := Lib.hid hmul; clear hmul
  have H_b2 := Lib.hid b2; clear b2
  go_wp2_with (fail)
  refine H_hmul.out.mono ?_
  rintro e w3 ⟨nv, nl, rfl, n1, n2, n3, n4⟩
  obtain ⟨an, cn, rfl⟩ := n1.form
  have k0 := cell_fresh k0 n4
  have hlt : sval nl < spow 600 := by
    rw [n3]
    have e1 := H_hz.out
    have e2 : 10 ^ p < spow 300 := pow_spow (by omega)
    have := Nat.mul_lt_mul'' e1 e2
    rwa [← spow_add] at this
  have hnl : nl.length ≤ 600 := n2.s_len_le hlt
  have f3 := fresh_trans H_f2.out n4
  have hdiv := NatDiv_any _ _ nl dl w3 n1 (H_hda.out.fresh f3) n2 H_hdna.out (by omega) H_hd.out
  rw [n3] at hdiv
  have b2 := row_fresh H_b2.out n4
  clear n1 n2 n4 hlt H_p3 H_hmul H_b2
  have H_f3 := Lib.hid f3; clear f3
  have H_hdiv := Lib.hid hdiv; clear hdiv
  have H_n3 := Lib.hid n3; clear n3
  have H_b2 := Lib.hid b2; clear b2
  go_wp2_with (fail)
  refine H_hdiv.out.mono ?_
  rintro e w4 ⟨qv, rv, ql, rl, rfl, q1, q2, q3, r1, r2, r3, f4⟩
  obtain ⟨aq, cq, rfl⟩ := q1.form
  obtain ⟨ar, cr, rfl⟩ := r1.form
  have k0 := cell_fresh k0 f4
  have b2 := row_fresh H_b2.out f4
  have f4 := fresh_trans H_f3.out f4
  clear H_hdiv H_b1 H_b2
  have hqn : ql.length ≤ 600 := q2.s_len_le (by
    rw [q3]
    refine Nat.lt_of_le_of_lt (Nat.div_le_self _ _) ?_
    have e1 := H_hz.out
    have e2 : 10 ^ p < spow 300 := pow_spow (by omega)
    have := Nat.mul_lt_mul'' e1 e2
    rwa [← spow_add] at this)
  have hrl : rl.length ≤ 300 := r2.s_len_le (by
    rw [r3]
    exact Nat.lt_trans (Nat.mod_lt _ H_hd.out) H_hdd.out)
  obtain ⟨v, hv⟩ : ∃ v, v = rhe (sval la * 10 ^ p) (sval dl) := ⟨_, rfl⟩
  have h0 := H_h0.out
  rw [← hv] at h0
  clear H_h0
  rcases Nat.eq_zero_or_pos rl.length with hr0 | hr0
  · have hvq : v = sval ql := by
      have hm0 : sval la * 10 ^ p % sval dl = 0 := by rw [← r3, List.eq_nil_of_length_eq_zero hr0]; rfl
      rw [hv, q3]
      exact rhe_exact H_hd.out (Nat.div_mul_cancel (Nat.dvd_of_mod_eq_zero hm0)).symm
    rw [hr0]
    clear r1 r2 r3 hr0 hrl
    have H_q1 := Lib.hid q1; clear q1
    have H_q2 := Lib.hid q2; clear q2
    have H_q3 := Lib.hid q3; clear q3
    have H_f4 := Lib.hid f4; clear f4
    have H_b2 := Lib.hid b2; clear b2
    have H_hvq := Lib.hid hvq; clear hvq
    have H_hv := Lib.hid hv; clear hv
    have H_h0 := Lib.hid h0; clear h0
    go_wp2_with (go_quiet (fail))
    refine (wholeOf_any na _ ql _ ?c9_1).mono ?_
    case c9_1 => first | exact H_q1.out | exact (H_q1.out).drew | exact (H_q1.out).drewN _
    rintro e w9 ⟨rfl, f9⟩
    have f9 : Fresh w4 w9 := by first | exact f9 | exact f9.of_drew | exact f9.of_drewN
    have b3 := row_fresh H_b2.out f9
    have p0 := row_cell b3 0
    have p1 := row_cell b3 1
    have p2 := row_cell b3 2
    simp at p0 p1 p2
    have z0 : w9.frozen? ⟨g + 1, 0, none⟩ = false := frozen_of_row _ _ _ _ _ b3
    have z1 : w9.frozen? ⟨g + 1, 1, none⟩ = false := frozen_of_row _ _ _ _ _ b3
    have z2 : w9.frozen? ⟨g + 1, 2, none⟩ = false := frozen_of_row _ _ _ _ _ b3
    have x1 := (H_q1.out).fresh f9
    have fw := fresh_trans H_f4.out f9
    obtain ⟨bn, hbn⟩ : ∃ b, b = (na && decide (0 < ql.length)) := ⟨_, rfl⟩
    rw [← hbn]
    clear f9
    have H_b3 := Lib.hid b3; clear b3
    have H_x1 := Lib.hid x1; clear x1
    have H_fw := Lib.hid fw; clear fw
    have H_hbn := Lib.hid hbn; clear hbn
    go_wp2_with (fail)
    refine bodyPost_ret (results_cell_row rfl _ _ (g + 1) 45 #[.bool bn, .slice aq ql.length cq, .int .i64 (-(p : Int))] (0, 0) _ rfl (row_set (row_set (row_set H_b3.out))) Tryz.underlying45 rfl (by kernel_rfl)) rfl ?_
    have g1 := H_x1.out.off p0 (fun n e => by simp at e)
    exact ⟨_, rfl, ⟨bn, _, ql, rfl, ((H_x1.out.setOff g1).setOff g1).setOff g1, H_q2.out, fun e => by rw [H_hbn.out, e]; simp, by rw [H_hbn.out]; exact sint_sgn H_hna.out H_q2.out H_hca.out (H_hvq.out.symm.trans H_hv.out) (fun h => H_hv.out.symm.trans (H_h0.out h))⟩, H_fw.out.set3 (by have := H_hg.out; omega)⟩
  · have hr0N : ¬ rl.length = 0 := by omega
    have tr : decide (0 < (rl.length : Int)) = true := by simp; omega
    have hup := rhe_up q3 r3
    rw [← hv] at hup
    have hadd : ∀ W, Fresh w4 W → Calls Tryz.prog 81 #[.slice ar rl.length cr, .slice ar rl.length cr] W (SRet W (sval rl + sval rl)) := fun W hW => NatAdd_any _ _ rl rl W (r1.fresh hW) (r1.fresh hW) r2 r2 (by omega) (by omega)
    obtain ⟨rn, hrn⟩ : ∃ rn, rn = rl.length := ⟨_, rfl⟩
    rw [← hrn] at tr hadd hr0N ⊢
    have hrn0 : 0 < rn := by omega
    clear hr0
    have hcmp : ∀ W sv sl, Fresh w4 W → SNat W sv sl → Norm sl → sval sl = sval rl + sval rl → Calls Tryz.prog 83 #[sv, .slice ad dl.length cd] W (Quiet W (.int .i64 (cmpN (sval rl + sval rl) (sval dl)))) := fun W sv sl hW hs hn hv2 => by
      have := NatCmp_any sv _ sl dl W hs ((H_hda.out.fresh f4).fresh hW) hn H_hdna.out
      rw [hv2] at this
      exact this
    generalize cmpN (sval rl + sval rl) (sval dl) = cz at *
    rcases Nat.eq_zero_or_pos ql.length with hq0 | hq0
    · have hodd : decide (sval ql % 2 = 1) = false := by rw [List.eq_nil_of_length_eq_zero hq0]; rfl
      rw [hodd] at hup
      have hrnd := fun W => rounds_he na false cz W
      generalize (decide (0 < cz) || (decide (cz = 0) && false)) = up at *
      rw [hq0] at q1 ⊢
      have H_q1 := Lib.hid q1; clear q1
      have H_q2 := Lib.hid q2; clear q2
      have H_q3 := Lib.hid q3; clear q3
      have H_f4 := Lib.hid f4; clear f4
      have H_b2 := Lib.hid b2; clear b2
      have H_hv := Lib.hid hv; clear hv
      have H_h0 := Lib.hid h0; clear h0
      have H_hadd := Lib.hid hadd; clear hadd
      have H_hcmp := Lib.hid hcmp; clear hcmp
      have H_hrn := Lib.hid hrn; clear hrn
      have H_r1 := Lib.hid r1; clear r1
      have H_r2 := Lib.hid r2; clear r2
      have H_r3 := Lib.hid r3; clear r3
      have H_hup := Lib.hid hup; clear hup
      have H_hodd := Lib.hid hodd; clear hodd
      have H_hq0 := Lib.hid hq0; clear hq0
      have H_hrnd := Lib.hid hrnd; clear hrnd
      go_wp2_with (fail)
      refine wp_region_E (S := (fun (w' : World) => w'.cell? ⟨g, 0, none⟩ = some (.bool na))) 24 (by kernel_rfl) (by exact k0) (fun hHeld => ?_)
      refine wpAnyE_takeP (i := 0) (v := ?v0_1) rfl (by kernel_rfl) (fun _ _ _ h => h) ⟨by rfl, ?y0_1⟩ (by assumption) ?r0_1
      case y0_1 => (intro w; go_simp; try with_reducible rfl)
      try simp only [Act.put, yA, yB, yD, yE, yF]
      refine wpAnyE_takeP (i := 1) (v := ?v1_1) rfl (by kernel_rfl) (fun _ _ _ h => h) ⟨by rfl, ?y1_1⟩ (by assumption) ?r1_1
      case y1_1 => (intro w; go_simp; try with_reducible rfl)
      try simp only [Act.put, yA, yB, yC, yD, yE, yF]
      refine wpAnyE_takeP (i := 2) (v := ?v2_1) rfl (by kernel_rfl) (fun _ _ _ h => h) ⟨by rfl, ?y2_1⟩ (by assumption) ?r2_1
      case y2_1 => (intro w; go_simp; try with_reducible rfl)
      try simp only [Act.put, yA, yB, yC, yD, yE, yF]
      refine wpAnyE_takeP (i := 3) (v := .bool true) rfl (by kernel_rfl) (fun _ _ _ h => h) ⟨by rfl, ?y3_1⟩ (by assumption) ?r3_1
      case y3_1 => (intro w; go_simp)
      try simp only [Act.put, yA, yB, yC, yD, yE, yF]
      refine wpAnyE_takeP (i := 4) (v := ?v4_1) rfl (by kernel_rfl) (fun _ _ _ h => h) ⟨by rfl, ?y4_1⟩ (by assumption) ?r4_1
      case y4_1 => (intro w; go_simp; try with_reducible rfl)
      try simp only [Act.put, yA, yB, yC, yD, yE, yF]
      refine wpAnyE_takeP (i := 5) (v := ?v5_1) rfl (by kernel_rfl) (fun _ _ _ h => h) ⟨by rfl, ?y5_1⟩ (by assumption) ?r5_1
      case y5_1 => (intro w; go_simp; try with_reducible rfl)
      try simp only [Act.put, yA, yB, yC, yD, yE, yF]
      refine wpAnyE_takeP (i := 6) (v := ?v6_1) rfl (by kernel_rfl) (fun _ _ _ h => h) ⟨by rfl, ?y6_1⟩ (by assumption) ?r6_1
      case y6_1 => (intro w; go_simp; try with_reducible rfl)
      try simp only [Act.put, yA, yB, yC, yD, yE, yF]
      refine wpAnyE_takeL (i := 7) (c := 23) (v := ?v7_1) rfl (by kernel_rfl) (fun _ _ _ h => h) ⟨by rfl, ?y7_1⟩ (by assumption) ?r7_1
      case y7_1 => (intro w hSw; go_split_ands; go_simp; try with_reducible rfl)
      try simp only [Act.put, yA, yB, yC, yD, yE, yF]
      refine wpAnyE_takeP (i := 8) (v := ?v8_1) rfl (by kernel_rfl) (fun _ _ _ h => h) ⟨by rfl, ?y8_1⟩ (by assumption) ?r8_1
      case y8_1 => (intro w; go_simp; try with_reducible rfl)
      try simp only [Act.put, yA, yB, yC, yD, yE, yF]
      refine wpAnyE_takeP (i := 9) (v := ?v9_1) rfl (by kernel_rfl) (fun _ _ _ h => h) ⟨by rfl, ?y9_1⟩ (by assumption) ?r9_1
      case y9_1 => (intro w; go_simp; try with_reducible rfl)
      try simp only [Act.put, yA, yB, yC, yD, yE, yF]
      refine wpAnyE_takeP (i := 11) (v := ?v11_1) rfl (by kernel_rfl) (fun _ _ _ h => h) ⟨by rfl, ?y11_1⟩ (by assumption) ?r11_1
      case y11_1 => (intro w; go_simp; try with_reducible rfl)
      try simp only [Act.put, yA, yB, yC, yD, yE, yF]
      refine wpAnyE_takeP (i := 13) (v := ?v13_1) rfl (by kernel_rfl) (fun _ _ _ h => h) ⟨by rfl, ?y13_1⟩ (by assumption) ?r13_1
      case y13_1 => (intro w; go_simp; try with_reducible rfl)
      try simp only [Act.put, yA, yB, yC, yD, yE, yF]
      refine wpAnyE_takeP (i := 14) (v := ?v14_1) rfl (by kernel_rfl) (fun _ _ _ h => h) ⟨by rfl, ?y14_1⟩ (by assumption) ?r14_1
      case y14_1 => (intro w; go_simp; try with_reducible rfl)
      try simp only [Act.put, yA, yB, yC, yD, yE, yF]
      refine wpAnyE_takeP (i := 15) (v := ?v15_1) rfl (by kernel_rfl) (fun _ _ _ h => h) ⟨by rfl, ?y15_1⟩ (by assumption) ?r15_1
      case y15_1 => (intro w; go_simp; try with_reducible rfl)
      try simp only [Act.put, yA, yB, yC, yD, yE, yF]
      refine wpAnyE_one (i := 10) rfl (by kernel_rfl) (fun K hK => ?_)
      go_simp
      refine (H_hadd.out _ ?c1).mono ?_; (case c1 => first| exact Keep.refl _ _| exact (Keep.refl _ _).drew| exact (Keep.refl _ _).drewN _); rintro e w5 ⟨sv, sl, rfl, s1, s2, s3, s4⟩; have hs5 : Fresh w4 w5 := (by first| exact s4| exact s4.of_drew| exact s4.of_drewN); obtain ⟨as_, cs_, rfl⟩ := s1.form; have m0 := cell_fresh k0 hs5; have H_s1 := Lib.hid s1; have H_s2 := Lib.hid s2; have H_s3 := Lib.hid s3; have H_hs5 := Lib.hid hs5; clear s1 s2 s3 s4 hs5
      go_wp2_with (fail)
      have hHeld1 : ((fun (w' : World) => w'.cell? ⟨g, 0, none⟩ = some (.bool na))) _ := m0
      refine hK.out _ _ (fun _ => hHeld1) ?_
      clear hK K
      try simp only [Act.put, yA, yB, yC, yD, yE, yF]
      refine wpAnyE_one (i := 12) rfl (by kernel_rfl) (fun K hK => ?_)
      go_simp
      refine (H_hcmp.out _ _ _ H_hs5.out H_s1.out H_s2.out H_s3.out).mono ?_; rintro e w6 ⟨rfl, nq6, rfl⟩; have s0 := cell_fresh m0 ((Keep.refl (fun _ => False) w5).drewN nq6); have H_f6 := Lib.hid (H_hs5.out.drewN nq6); generalize w5.drewN nq6 = w6 at *
      go_wp2_with (fail)
      have hHeld2 : ((fun (w' : World) => w'.cell? ⟨g, 0, none⟩ = some (.bool na))) _ := s0
      refine hK.out _ _ (fun _ => hHeld2) ?_
      clear hK K
      try simp only [Act.put, yA, yB, yC, yD, yE, yF]
      refine wpAnyE_takeP (i := 16) (v := .bool false) rfl (by kernel_rfl) (fun _ _ _ h => h) ⟨by rfl, ?y16_1⟩ (by assumption) ?r16_1
      case y16_1 => (intro w; go_simp)
      try simp only [Act.put, yA, yB, yC, yD, yE, yF]
      refine wpAnyE_takeU (i := 17) rfl (by kernel_rfl) (fun _ _ _ h => h) (by rfl) (by assumption) ?_
      try simp only [Act.put, yA, yB, yC, yD, yE, yF]
      refine wpAnyE_takeU (i := 18) rfl (by kernel_rfl) (fun _ _ _ h => h) (by rfl) (by assumption) ?_
      try simp only [Act.put, yA, yB, yC, yD, yE, yF]
      refine wpAnyE_takeU (i := 19) rfl (by kernel_rfl) (fun _ _ _ h => h) (by rfl) (by assumption) ?_
      try simp only [Act.put, yA, yB, yC, yD, yE, yF]
      refine wpAnyE_takeU (i := 20) rfl (by kernel_rfl) (fun _ _ _ h => h) (by rfl) (by assumption) ?_
      try simp only [Act.put, yA, yB, yC, yD, yE, yF]
      refine wpAnyE_takeU (i := 21) rfl (by kernel_rfl) (fun _ _ _ h => h) (by rfl) (by assumption) ?_
      try simp only [Act.put, yA, yB, yC, yD, yE, yF]
      refine wpAnyE_takeP (i := 22) (v := ?v22_1) rfl (by kernel_rfl) (fun _ _ _ h => h) ⟨by rfl, ?y22_1⟩ (by assumption) ?r22_1
      case y22_1 => (intro w; go_simp; try with_reducible rfl)
      try simp only [Act.put, yA, yB, yC, yD, yE, yF]
      refine wpAnyE_one (i := 23) rfl (by kernel_rfl) (fun K hK => ?_)
      go_simp
      refine (H_hrnd.out _).mono ?_; rintro e w7 ⟨rfl, hsame⟩; subst hsame
      go_wp2_with (fail)
      have hHeld3 : ((fun (w' : World) => w'.cell? ⟨g, 0, none⟩ = some (.bool na))) _ := s0
      refine hK.out _ _ (fun _ => hHeld3) ?_
      clear hK K
      try simp only [Act.put, yA, yB, yC, yD, yE, yF]
      refine wpAnyE_one (i := 24) rfl (by kernel_rfl) (fun K hK => ?_)
      go_simp
      refine hK.out _ _ (fun h => Bool.noConfusion (show true = false from h)) ?_
      clear hK K
      try simp only [Act.put, yA, yB, yC, yD, yE, yF]
      refine wpAnyE_done (by kernel_rfl) ?_ _
      have fc := fresh_trans H_f4.out H_f6.out
      have b2 := row_fresh H_b2.out H_f6.out
      have q1 := H_q1.out.fresh H_f6.out
      clear H_b2 H_q1 H_f4
      have H_fc := Lib.hid fc; clear fc
      have H_b2 := Lib.hid b2; clear b2
      have H_q1 := Lib.hid q1; clear q1
      cases up
      · have hvq : v = sval ql := by have := H_hup.out; simpa using this
        have H_hvq := Lib.hid hvq; clear hvq
        go_wp2_with (fail)
        refine (wholeOf_any na _ ql _ ?c9_2).mono ?_
        case c9_2 => first | exact H_q1.out | exact (H_q1.out).drew | exact (H_q1.out).drewN _
        rintro e w9 ⟨rfl, f9⟩
        have f9 : Fresh w7 w9 := by first | exact f9 | exact f9.of_drew | exact f9.of_drewN
        have b3 := row_fresh H_b2.out f9
        have p0 := row_cell b3 0
        have p1 := row_cell b3 1
        have p2 := row_cell b3 2
        simp at p0 p1 p2
        have z0 : w9.frozen? ⟨g + 1, 0, none⟩ = false := frozen_of_row _ _ _ _ _ b3
        have z1 : w9.frozen? ⟨g + 1, 1, none⟩ = false := frozen_of_row _ _ _ _ _ b3
        have z2 : w9.frozen? ⟨g + 1, 2, none⟩ = false := frozen_of_row _ _ _ _ _ b3
        have x1 := (H_q1.out).fresh f9
        have fw := fresh_trans H_fc.out f9
        obtain ⟨bn, hbn⟩ : ∃ b, b = (na && decide (0 < ql.length)) := ⟨_, rfl⟩
        rw [← hbn]
        clear f9
        have H_b3 := Lib.hid b3; clear b3
        have H_x1 := Lib.hid x1; clear x1
        have H_fw := Lib.hid fw; clear fw
        have H_hbn := Lib.hid hbn; clear hbn
        go_wp2_with (fail)
        refine bodyPost_ret (results_cell_row rfl _ _ (g + 1) 45 #[.bool bn, .slice aq 0 cq, .int .i64 (-(p : Int))] (0, 0) _ rfl (row_set (row_set (row_set H_b3.out))) Tryz.underlying45 rfl (by kernel_rfl)) rfl ?_
        have g1 := H_x1.out.off p0 (fun n e => by simp at e)
        exact ⟨_, rfl, ⟨bn, _, ql, rfl, ((H_x1.out.setOff g1).setOff g1).setOff g1, H_q2.out, fun e => by rw [H_hbn.out, e]; simp, by rw [H_hbn.out]; exact sint_sgn H_hna.out H_q2.out H_hca.out (H_hvq.out.symm.trans H_hv.out) (fun h => H_hv.out.symm.trans (H_h0.out h))⟩, H_fw.out.set3 (by have := H_hg.out; omega)⟩
      · have hvq0 : v = sval ql + 1 := by have := H_hup.out; simpa using this
        have H_hvq0 := Lib.hid hvq0; clear hvq0
        go_wp2_with (fail)
        refine (one_any _).mono ?_
        rintro e w8 ⟨ov, ol, rfl, o1, o2, o3, f7⟩
        have f7 : Fresh w7 w8 := by first | exact f7 | exact f7.of_drew | exact f7.of_drewN
        obtain ⟨ao, co, rfl⟩ := o1.form
        have hol : ol.length ≤ 1 := o2.s_len_le (by rw [o3]; unfold spow; omega)
        have hadd2 := NatAdd_any _ _ ql ol w8 (H_q1.out.fresh f7) o1 H_q2.out o2 (by omega) (by omega)
        have b2 := row_fresh H_b2.out f7
        have fc := fresh_trans H_fc.out f7
        have s0 := cell_fresh s0 f7
        clear H_b2 H_fc o1 o2
        have H_hadd2 := Lib.hid hadd2; clear hadd2
        have H_o3 := Lib.hid o3; clear o3
        have H_f7 := Lib.hid f7; clear f7
        have H_b2 := Lib.hid b2; clear b2
        have H_fc := Lib.hid fc; clear fc
        have H_hol := Lib.hid hol; clear hol
        go_wp2_with (fail)
        refine H_hadd2.out.mono ?_
        rintro e w10 ⟨tv, tl, rfl, y1, y2, y3, f8⟩
        obtain ⟨at_, ct_, rfl⟩ := y1.form
        have b2 := row_fresh H_b2.out f8
        have fc := fresh_trans H_fc.out f8
        have hvq : v = sval tl := by rw [y3, H_hvq0.out, H_o3.out]
        have s0 := cell_fresh s0 f8
        clear H_b2 H_fc y3 f8 H_hadd2
        have H_y1 := Lib.hid y1; clear y1
        have H_y2 := Lib.hid y2; clear y2
        have H_b2 := Lib.hid b2; clear b2
        have H_fc := Lib.hid fc; clear fc
        have H_hvq := Lib.hid hvq; clear hvq
        go_wp2_with (fail)
        refine (wholeOf_any na _ tl _ ?c9_3).mono ?_
        case c9_3 => first | exact H_y1.out | exact (H_y1.out).drew | exact (H_y1.out).drewN _
        rintro e w9 ⟨rfl, f9⟩
        have f9 : Fresh w10 w9 := by first | exact f9 | exact f9.of_drew | exact f9.of_drewN
        have b3 := row_fresh H_b2.out f9
        have p0 := row_cell b3 0
        have p1 := row_cell b3 1
        have p2 := row_cell b3 2
        simp at p0 p1 p2
        have z0 : w9.frozen? ⟨g + 1, 0, none⟩ = false := frozen_of_row _ _ _ _ _ b3
        have z1 : w9.frozen? ⟨g + 1, 1, none⟩ = false := frozen_of_row _ _ _ _ _ b3
        have z2 : w9.frozen? ⟨g + 1, 2, none⟩ = false := frozen_of_row _ _ _ _ _ b3
        have x1 := (H_y1.out).fresh f9
        have fw := fresh_trans H_fc.out f9
        obtain ⟨bn, hbn⟩ : ∃ b, b = (na && decide (0 < tl.length)) := ⟨_, rfl⟩
        rw [← hbn]
        clear f9
        have H_b3 := Lib.hid b3; clear b3
        have H_x1 := Lib.hid x1; clear x1
        have H_fw := Lib.hid fw; clear fw
        have H_hbn := Lib.hid hbn; clear hbn
        go_wp2_with (fail)
        refine bodyPost_ret (results_cell_row rfl _ _ (g + 1) 45 #[.bool bn, .slice at_ tl.length ct_, .int .i64 (-(p : Int))] (0, 0) _ rfl (row_set (row_set (row_set H_b3.out))) Tryz.underlying45 rfl (by kernel_rfl)) rfl ?_
        have g1 := H_x1.out.off p0 (fun n e => by simp at e)
        exact ⟨_, rfl, ⟨bn, _, tl, rfl, ((H_x1.out.setOff g1).setOff g1).setOff g1, H_y2.out, fun e => by rw [H_hbn.out, e]; simp, by rw [H_hbn.out]; exact sint_sgn H_hna.out H_y2.out H_hca.out (H_hvq.out.symm.trans H_hv.out) (fun h => H_hv.out.symm.trans (H_h0.out h))⟩, H_fw.out.set3 (by have := H_hg.out; omega)⟩
    · have hq0N : ¬ ql.length = 0 := by omega
      have tq : decide (0 < (ql.length : Int)) = true := by simp; omega
      have hodd : decide (sval ql % 2 = 1) = decide (ql.getD 0 0 % 2 = 1) := by rw [low_odd]
      rw [hodd] at hup
      obtain ⟨qg, rfl, hcq, hgq, hcells⟩ := q1.cells rfl hq0
      have kq := hcells 0 (by omega)
      obtain ⟨x, hx⟩ : ∃ x, x = ql.getD 0 0 := ⟨_, rfl⟩
      rw [← hx] at kq hup
      have hob : ((x : Int).tmod 2 == 1) = decide (x % 2 = 1) := by
        rw [Int.tmod_eq_emod_of_nonneg (by omega)]
        rcases Nat.mod_two_eq_zero_or_one x with h | h
        · have e : (x : Int) % 2 = 0 := by omega
          rw [e, h]; rfl
        · have e : (x : Int) % 2 = 1 := by omega
          rw [e, h]; rfl
      generalize decide (x % 2 = 1) = ob at *
      have hrnd := fun W => rounds_he na ob cz W
      generalize (decide (0 < cz) || (decide (cz = 0) && ob)) = up at *
      clear hcells
      have H_q1 := Lib.hid q1; clear q1
      have H_q2 := Lib.hid q2; clear q2
      have H_q3 := Lib.hid q3; clear q3
      have H_f4 := Lib.hid f4; clear f4
      have H_b2 := Lib.hid b2; clear b2
      have H_hv := Lib.hid hv; clear hv
      have H_h0 := Lib.hid h0; clear h0
      have H_hadd := Lib.hid hadd; clear hadd
      have H_hcmp := Lib.hid hcmp; clear hcmp
      have H_hrn := Lib.hid hrn; clear hrn
      have H_r1 := Lib.hid r1; clear r1
      have H_r2 := Lib.hid r2; clear r2
      have H_r3 := Lib.hid r3; clear r3
      have H_hup := Lib.hid hup; clear hup
      have H_hodd := Lib.hid hodd; clear hodd
      have H_hrnd := Lib.hid hrnd; clear hrnd
      have H_hx := Lib.hid hx; clear hx
      go_wp2_with (fail)
      go_region_held3 (fun (w' : World) => w'.cell? ⟨g, 0, none⟩ = some (.bool na) ∧ w'.cell? ⟨qg, 0, none⟩ = some (wd .u32 x)) (first | exact ⟨k0, kq⟩ | exact ⟨m0, mq⟩ | exact ⟨s0, sq⟩) (first
        | (go_at_call 81; (with_reducible refine (H_hadd.out _ ?c1).mono ?_); (case c1 => first| exact Keep.refl _ _| exact (Keep.refl _ _).drew| exact (Keep.refl _ _).drewN _); rintro e w5 ⟨sv, sl, rfl, s1, s2, s3, s4⟩; have hs5 : Fresh w4 w5 := (by first| exact s4| exact s4.of_drew| exact s4.of_drewN); obtain ⟨as_, cs_, rfl⟩ := s1.form; have m0 := cell_fresh k0 hs5; have H_s1 := Lib.hid s1; have H_s2 := Lib.hid s2; have H_s3 := Lib.hid s3; have H_hs5 := Lib.hid hs5; clear s1 s2 s3 s4 hs5; have mq := cell_fresh kq H_hs5.out)
        | (go_at_call 83; (with_reducible refine (H_hcmp.out _ _ _ H_hs5.out H_s1.out H_s2.out H_s3.out).mono ?_); rintro e w6 ⟨rfl, nq6, rfl⟩; have s0 := cell_fresh m0 ((Keep.refl (fun _ => False) w5).drewN nq6); have sq := cell_fresh mq ((Keep.refl (fun _ => False) w5).drewN nq6); have H_f6 := Lib.hid (H_hs5.out.drewN nq6); generalize w5.drewN nq6 = w6 at *)
        | (go_at_call 107; (with_reducible refine (H_hrnd.out _).mono ?_); rintro e w7 ⟨rfl, hsame⟩; subst hsame))
      have fc := fresh_trans H_f4.out H_f6.out
      have b2 := row_fresh H_b2.out H_f6.out
      have q1 := H_q1.out.fresh H_f6.out
      clear H_b2 H_q1 H_f4
      have H_fc := Lib.hid fc; clear fc
      have H_b2 := Lib.hid b2; clear b2
      have H_q1 := Lib.hid q1; clear q1
      cases up
      · have hvq : v = sval ql := by have := H_hup.out; simpa using this
        have H_hvq := Lib.hid hvq; clear hvq
        go_wp2_with (fail)
        refine (wholeOf_any na _ ql _ ?c9_4).mono ?_
        case c9_4 => first | exact H_q1.out | exact (H_q1.out).drew | exact (H_q1.out).drewN _
        rintro e w9 ⟨rfl, f9⟩
        have f9 : Fresh w7 w9 := by first | exact f9 | exact f9.of_drew | exact f9.of_drewN
        have b3 := row_fresh H_b2.out f9
        have p0 := row_cell b3 0
        have p1 := row_cell b3 1
        have p2 := row_cell b3 2
        simp at p0 p1 p2
        have z0 : w9.frozen? ⟨g + 1, 0, none⟩ = false := frozen_of_row _ _ _ _ _ b3
        have z1 : w9.frozen? ⟨g + 1, 1, none⟩ = false := frozen_of_row _ _ _ _ _ b3
        have z2 : w9.frozen? ⟨g + 1, 2, none⟩ = false := frozen_of_row _ _ _ _ _ b3
        have x1 := (H_q1.out).fresh f9
        have fw := fresh_trans H_fc.out f9
        obtain ⟨bn, hbn⟩ : ∃ b, b = (na && decide (0 < ql.length)) := ⟨_, rfl⟩
        rw [← hbn]
        clear f9
        have H_b3 := Lib.hid b3; clear b3
        have H_x1 := Lib.hid x1; clear x1
        have H_fw := Lib.hid fw; clear fw
        have H_hbn := Lib.hid hbn; clear hbn
        go_wp2_with (fail)
        refine bodyPost_ret (results_cell_row rfl _ _ (g + 1) 45 #[.bool bn, .slice (some ⟨qg, 0, none⟩) ql.length cq, .int .i64 (-(p : Int))] (0, 0) _ rfl (row_set (row_set (row_set H_b3.out))) Tryz.underlying45 rfl (by kernel_rfl)) rfl ?_
        have g1 := H_x1.out.off p0 (fun n e => by simp at e)
        exact ⟨_, rfl, ⟨bn, _, ql, rfl, ((H_x1.out.setOff g1).setOff g1).setOff g1, H_q2.out, fun e => by rw [H_hbn.out, e]; simp, by rw [H_hbn.out]; exact sint_sgn H_hna.out H_q2.out H_hca.out (H_hvq.out.symm.trans H_hv.out) (fun h => H_hv.out.symm.trans (H_h0.out h))⟩, H_fw.out.set3 (by have := H_hg.out; omega)⟩
      · have hvq0 : v = sval ql + 1 := by have := H_hup.out; simpa using this
        have H_hvq0 := Lib.hid hvq0; clear hvq0
        go_wp2_with (fail)
        refine (one_any _).mono ?_
        rintro e w8 ⟨ov, ol, rfl, o1, o2, o3, f7⟩
        have f7 : Fresh w7 w8 := by first | exact f7 | exact f7.of_drew | exact f7.of_drewN
        obtain ⟨ao, co, rfl⟩ := o1.form
        have hol : ol.length ≤ 1 := o2.s_len_le (by rw [o3]; unfold spow; omega)
        have hadd2 := NatAdd_any _ _ ql ol w8 (H_q1.out.fresh f7) o1 H_q2.out o2 (by omega) (by omega)
        have b2 := row_fresh H_b2.out f7
        have fc := fresh_trans H_fc.out f7
        have s0 := cell_fresh s0 f7
        clear H_b2 H_fc o1 o2
        have H_hadd2 := Lib.hid hadd2; clear hadd2
        have H_o3 := Lib.hid o3; clear o3
        have H_f7 := Lib.hid f7; clear f7
        have H_b2 := Lib.hid b2; clear b2
        have H_fc := Lib.hid fc; clear fc
        have H_hol := Lib.hid hol; clear hol
        go_wp2_with (fail)
        refine H_hadd2.out.mono ?_
        rintro e w10 ⟨tv, tl, rfl, y1, y2, y3, f8⟩
        obtain ⟨at_, ct_, rfl⟩ := y1.form
        have b2 := row_fresh H_b2.out f8
        have fc := fresh_trans H_fc.out f8
        have hvq : v = sval tl := by rw [y3, H_hvq0.out, H_o3.out]
        have s0 := cell_fresh s0 f8
        clear H_b2 H_fc y3 f8 H_hadd2
        have H_y1 := Lib.hid y1; clear y1
        have H_y2 := Lib.hid y2; clear y2
        have H_b2 := Lib.hid b2; clear b2
        have H_fc := Lib.hid fc; clear fc
        have H_hvq := Lib.hid hvq; clear hvq
        go_wp2_with (fail)
        refine (wholeOf_any na _ tl _ ?c9_5).mono ?_
        case c9_5 => first | exact H_y1.out | exact (H_y1.out).drew | exact (H_y1.out).drewN _
        rintro e w9 ⟨rfl, f9⟩
        have f9 : Fresh w10 w9 := by first | exact f9 | exact f9.of_drew | exact f9.of_drewN
        have b3 := row_fresh H_b2.out f9
        have p0 := row_cell b3 0
        have p1 := row_cell b3 1
        have p2 := row_cell b3 2
        simp at p0 p1 p2
        have z0 : w9.frozen? ⟨g + 1, 0, none⟩ = false := frozen_of_row _ _ _ _ _ b3
        have z1 : w9.frozen? ⟨g + 1, 1, none⟩ = false := frozen_of_row _ _ _ _ _ b3
        have z2 : w9.frozen? ⟨g + 1, 2, none⟩ = false := frozen_of_row _ _ _ _ _ b3
        have x1 := (H_y1.out).fresh f9
        have fw := fresh_trans H_fc.out f9
        obtain ⟨bn, hbn⟩ : ∃ b, b = (na && decide (0 < tl.length)) := ⟨_, rfl⟩
        rw [← hbn]
        clear f9
        have H_b3 := Lib.hid b3; clear b3
        have H_x1 := Lib.hid x1; clear x1
        have H_fw := Lib.hid fw; clear fw
        have H_hbn := Lib.hid hbn; clear hbn
        go_wp2_with (fail)
        refine bodyPost_ret (results_cell_row rfl _ _ (g + 1) 45 #[.bool bn, .slice at_ tl.length ct_, .int .i64 (-(p : Int))] (0, 0) _ rfl (row_set (row_set (row_set H_b3.out))) Tryz.underlying45 rfl (by kernel_rfl)) rfl ?_
        have g1 := H_x1.out.off p0 (fun n e => by simp at e)
        exact ⟨_, rfl, ⟨bn, _, tl, rfl, ((H_x1.out.setOff g1).setOff g1).setOff g1, H_y2.out, fun e => by rw [H_hbn.out, e]; simp, by rw [H_hbn.out]; exact sint_sgn H_hna.out H_y2.out H_hca.out (H_hvq.out.symm.trans H_hv.out) (fun h => H_hv.out.symm.trans (H_h0.out h))⟩, H_fw.out.set3 (by have := H_hg.out; omega)⟩

end Go.Proofs.YtmgidnjpkbgmgabGreatDoor

/- The contracts of the reference's Room and Fixed: the greatest number of places for which there is room. -/
namespace Go.Proofs.YtmgidnjpkbgmgabGreatDoor
open Go.RowKit

/-- what Room tells -/
def RoomIs (N d : Nat) (r : Int) : Prop := (∃ t : Nat, r = (t : Int) ∧ Top N d t) ∨ (r = -1 ∧ ¬ okN N d 0)

theorem room_at {N d j : Nat} {r : Int} (hd : 0 < d) (hr : RoomIs N d r) (hok : okN N d j) (hj : j ≤ 19) (hn : ∀ i : Nat, j < i → i ≤ 19 → ¬ okN N d i) : Top N d j ∧ r = (j : Int) := by
  have ht : Top N d j := by
    refine ⟨hj, hok, ?_⟩
    rcases Nat.lt_or_ge j 19 with h | h
    · exact .inr (hn (j + 1) (by omega) (by omega))
    · exact .inl (by omega)
  rcases hr with ⟨t, rfl, h⟩ | ⟨_, h⟩
  · exact ⟨ht, by rw [top_unique hd ht h]⟩
  · exact absurd (okN_anti hd (Nat.zero_le j) hok) h

theorem room_none {N d : Nat} {r : Int} (hr : RoomIs N d r) (hn : ∀ i : Nat, i ≤ 19 → ¬ okN N d i) : r = -1 := by
  rcases hr with ⟨t, rfl, h⟩ | ⟨h, _⟩
  · exact absurd h.2.1 (hn t h.1)
  · exact h

theorem room_ex (N d : Nat) : ∃ r, RoomIs N d r := by
  by_cases h : okN N d 0
  · obtain ⟨t, ht⟩ := top_exists h
    exact ⟨t, .inl ⟨t, rfl, ht⟩⟩
  · exact ⟨-1, .inr ⟨rfl, h⟩⟩

theorem sgn_sint {neg : Bool} {l : List Nat} {z : Int} {n : Nat} (h : sint neg l = sgnN z n) : sval l = n := by
  have h1 := sint_natAbs neg l
  rw [h, sgnN_abs] at h1
  exact h1.symm

theorem prec_spow {n c : Nat} (h : c < spow n) : ∃ p, p ≤ 9 * n ∧ IsPrec c p := by
  rw [spow_ten] at h
  exact isPrec_ex _ _ h

theorem rhe_spow {N d p : Nat} (h : N < spow 300) (hp : p ≤ 19) : rhe (N * 10 ^ p) d < spow 400 := by
  refine Nat.lt_of_le_of_lt (rhe_le _ _) ?_
  have h1 : N * 10 ^ p / d ≤ N * 10 ^ p := Nat.div_le_self _ _
  have h2 : 10 ^ p < spow 99 := pow_spow (by omega)
  have h3 := Nat.mul_lt_mul'' h h2
  rw [← spow_add, show 300 + 99 = 399 from rfl] at h3
  have h4 : spow 399 < spow 400 := spow_lt (by omega)
  omega

set_option maxRecDepth 20000 in
set_option maxHeartbeats 4000000 in
theorem Room_any (xw : Value) (z : Int) (d : Nat) (r : Int) (w : World) (hx : SFr w xw z d) (hd : 0 < d) (hz : z.natAbs < spow 300) (hdd : d < spow 300) (hr : RoomIs z.natAbs d r) :
    Calls Tryz.prog 88 #[xw] w (VRet w (.int .i64 r)) := by
  obtain ⟨na, va, la, dv, dl, rfl, ha, hna, hca, rfl, hda, hdna, rfl⟩ := hx
  have hx : SFr w (.agg #[.bool na, va, dv]) (sint na la) (sval dl) := ⟨na, va, la, dv, dl, rfl, ha, hna, hca, rfl, hda, hdna, rfl⟩
  obtain ⟨aa, ca, rfl⟩ := ha.form
  obtain ⟨ad, cd, rfl⟩ := hda.form
  clear ha hna hca hda hdna
  obtain ⟨g, hg⟩ : ∃ g, g = w.heap.size := ⟨_, rfl⟩
  obtain ⟨N, hN⟩ : ∃ N, N = (sint na la).natAbs := ⟨_, rfl⟩
  obtain ⟨z, hz0⟩ : ∃ z, z = sint na la := ⟨_, rfl⟩
  obtain ⟨d, hd0⟩ : ∃ d, d = sval dl := ⟨_, rfl⟩
  rw [← hz0] at hx hz hr hN
  rw [← hd0] at hx hd hdd hr
  rw [← hN] at hz hr
  have hround := fun W (p : Nat) (hW : Fresh w W) (hp : p ≤ 19) => RoundHE_any _ z d p W (hx.fresh hW) hd (by rw [← hN]; exact hz) hdd (by omega)
  rw [← hN] at hround
  have bx := box1 w #[.bool na, .slice aa la.length ca, .slice ad dl.length cd] 39 g hg
  have hf0 : ∀ (nb : Bool) (ua : Option Addr) (un uc : Nat) (z : Int) (W : World), (Instr.field 45 (.agg #[.bool nb, .slice ua un uc, .int .i64 z]) 0).run Tryz.prog W = .ok (.agg #[.bool nb, .slice ua un uc]) W := fun _ _ _ _ _ _ => by kernel_rfl
  have hf1 : ∀ (nb : Bool) (ua : Option Addr) (un uc : Nat) (W : World), (Instr.field 37 (.agg #[.bool nb, .slice ua un uc]) 1).run Tryz.prog W = .ok (.slice ua un uc) W := fun _ _ _ _ _ => by kernel_rfl
  have H_bx := Lib.hid bx; clear bx
  have H_hz := Lib.hid hz; clear hz
  have H_hdd := Lib.hid hdd; clear hdd
  have H_hd := Lib.hid hd; clear hd
  have H_hr := Lib.hid hr; clear hr
  have H_hround := Lib.hid hround; clear hround
  have H_hx := Lib.hid hx; clear hx
  have H_hN := Lib.hid hN; clear hN
  have H_hz0 := Lib.hid hz0; clear hz0
  have H_hd0 := Lib.hid hd0; clear hd0
  go_enter Tryz.func88, Tryz.ntmps88
  go_wp2_with (fail)
  generalize hw1 : w.alloc _ = w1
  rw [← hg]
  obtain ⟨b1, hf⟩ := H_bx.out w1 hw1
  have H_b1 := Lib.hid b1; clear b1
  have H_hf := Lib.hid hf; clear hf
  have H_hw1 := Lib.hid hw1; clear hw1
  have H_hg := Lib.hid hg; clear hg
  go_wp2_with (fail)
  go_loopw [3] (fun i wr => ∃ k : Int, -1 ≤ k ∧ k ≤ 19 ∧ i = .int .i64 k ∧ Hid (∀ i : Nat, k < (i : Int) → i ≤ 19 → ¬ okN N d i) ∧ Hid (Fresh w1 wr)) (fun i _ => (intOf i + 1).toNat)
  case atStart => exact ⟨19, by omega, by omega, rfl, Lib.hid (fun i h1 h2 => by omega), Keep.refl _ _⟩
  case round =>
    obtain ⟨k, hk1, hk2, rfl, hno, hfr⟩ := hrel
    by_cases hk : 0 ≤ k
    · obtain ⟨j, rfl⟩ := Int.eq_ofNat_of_zero_le hk
      have hj : j ≤ 19 := by omega
      have t1 : decide (0 ≤ (j : Int)) = true := by simp
      have b1 := row_fresh H_b1.out hfr.out
      have k0 := row_cell b1 0
      have k1 := row_cell b1 1
      have k2 := row_cell b1 2
      simp at k0 k1 k2
      have hrd := H_hround.out wr j (fresh_trans H_hf.out hfr.out) hj
      clear b1
      have H_hrd := Lib.hid hrd; clear hrd
      go_wp2_with (fail)
      refine H_hrd.out.mono ?_
      rintro e w3 ⟨x, rfl, ⟨nb, v, l, rfl, s1, s2, s3, s4⟩, f3⟩
      obtain ⟨al, cl, rfl⟩ := s1.form
      have hsv := sgn_sint s4
      have hlen : l.length ≤ 400 := s2.s_len_le (by rw [hsv]; exact rhe_spow H_hz.out hj)
      obtain ⟨p, hp1, hp2⟩ := prec_spow (n := 400) (c := sval l) (by rw [hsv]; exact rhe_spow H_hz.out hj)
      have hdig := Digits_any _ l p w3 s1 s2 (by omega) hp2 (by omega)
      have hiff : okN N d j ↔ p ≤ 19 := by
        rw [← hp2.lt_iff, hsv]
        exact Iff.rfl
      have f3 := fresh_trans hfr.out f3
      clear s1 s2 s3 s4 hlen hp1 hp2 hsv k0 k1 k2
      have H_hdig := Lib.hid hdig; clear hdig
      have H_hiff := Lib.hid hiff; clear hiff
      have H_f3 := Lib.hid f3; clear f3
      go_wp2_with (fail)
      refine H_hdig.out.mono ?_
      rintro e w4 ⟨rfl, f4⟩
      have f4 := fresh_trans H_f3.out f4
      have H_f4 := Lib.hid f4; clear f4
      by_cases hok : okN N d j
      · have hp19 : p ≤ 19 := H_hiff.out.1 hok
        have t2 : decide ((p : Int) ≤ 19) = true := by simp; omega
        obtain ⟨_, hrj⟩ := room_at H_hd.out H_hr.out hok hj (fun i h1 h2 => hno.out i (by omega) h2)
        clear hok
        have H_hrj := Lib.hid hrj; clear hrj
        go_wp2_with (fail)
        go_ret
        exact ⟨by rw [H_hrj.out] <;> rfl, fresh_trans H_hf.out H_f4.out⟩
      · have hp19 : ¬ p ≤ 19 := fun h => hok (H_hiff.out.2 h)
        have t2 : decide ((p : Int) ≤ 19) = false := by simp; omega
        have hno2 : ∀ i : Nat, (j : Int) - 1 < (i : Int) → i ≤ 19 → ¬ okN N d i := fun i h1 h2 => by
          rcases Nat.lt_or_ge j i with h | h
          · exact hno.out i (by omega) h2
          · have : i = j := by omega
            rw [this]; exact hok
        clear hok
        have H_hno2 := Lib.hid hno2; clear hno2
        go_wp2_with (fail)
        go_roundw
        case rel => exact ⟨(j : Int) - 1, by omega, by omega, by simp, H_hno2, H_f4⟩
        case measure => simp [intOf] <;> omega
    · have t1 : decide (0 ≤ k) = false := by simp; omega
      have hrj := room_none H_hr.out (fun i h => hno.out i (by omega) h)
      have H_hrj := Lib.hid hrj; clear hrj
      go_wp2_with (fail)
      go_ret
      exact ⟨by rw [H_hrj.out] <;> rfl, fresh_trans H_hf.out hfr.out⟩

/-- Fixed returns the number rounded to as many places as there is room for -/
def FixedRet (w : World) (N d : Nat) (z : Int) (t : Nat) (e : Ending) (w' : World) : Prop := ∃ x, e = .returned (.tuple #[x, .bool true]) ∧ RdIs w' x (sgnN z (rhe (N * 10 ^ t) d)) t ∧ Fresh w w'

set_option maxRecDepth 20000 in
set_option maxHeartbeats 4000000 in
theorem Fixed_some (xw : Value) (z : Int) (d : Nat) (t : Nat) (ht : Top z.natAbs d t) (w : World) (hx : SFr w xw z d) (hd : 0 < d) (hz : z.natAbs < spow 300) (hdd : d < spow 300) :
    Calls Tryz.prog 40 #[xw, .int .i64 19] w (FixedRet w z.natAbs d z t) := by
  obtain ⟨na, va, la, dv, dl, rfl, ha, hna, hca, rfl, hda, hdna, rfl⟩ := hx
  have hx : SFr w (.agg #[.bool na, va, dv]) (sint na la) (sval dl) := ⟨na, va, la, dv, dl, rfl, ha, hna, hca, rfl, hda, hdna, rfl⟩
  obtain ⟨aa, ca, rfl⟩ := ha.form
  obtain ⟨ad, cd, rfl⟩ := hda.form
  clear ha hna hca hda hdna
  obtain ⟨g, hg⟩ : ∃ g, g = w.heap.size := ⟨_, rfl⟩
  obtain ⟨N, hN⟩ : ∃ N, N = (sint na la).natAbs := ⟨_, rfl⟩
  obtain ⟨z, hz0⟩ : ∃ z, z = sint na la := ⟨_, rfl⟩
  obtain ⟨d, hd0⟩ : ∃ d, d = sval dl := ⟨_, rfl⟩
  rw [← hz0] at hx hz ht hN ⊢
  rw [← hd0] at hx hd hdd ht ⊢
  rw [← hN] at hz ht ⊢
  have hround := fun W (p : Nat) (hW : Fresh w W) (hp : p ≤ 19) => RoundHE_any _ z d p W (hx.fresh hW) hd (by rw [← hN]; exact hz) hdd (by omega)
  rw [← hN] at hround
  have bx := boxes2 w #[.bool na, .slice aa la.length ca, .slice ad dl.length cd] #[.bool false, .slice none 0 0, .int .i64 0] 39 45 g hg
  have H_bx := Lib.hid bx; clear bx
  have H_hz := Lib.hid hz; clear hz
  have H_hdd := Lib.hid hdd; clear hdd
  have H_hd := Lib.hid hd; clear hd
  have H_ht := Lib.hid ht; clear ht
  have H_hround := Lib.hid hround; clear hround
  have H_hx := Lib.hid hx; clear hx
  have H_hN := Lib.hid hN; clear hN
  have H_hz0 := Lib.hid hz0; clear hz0
  have H_hd0 := Lib.hid hd0; clear hd0
  go_enter Tryz.func40, Tryz.ntmps40
  go_wp2_with (fail)
  generalize hw1 : (w.alloc _).alloc _ = w1
  rw [← hg]
  obtain ⟨b1, b2, hf⟩ := H_bx.out w1 hw1
  have H_b1 := Lib.hid b1; clear b1
  have H_b2 := Lib.hid b2; clear b2
  have H_hf := Lib.hid hf; clear hf
  have H_hw1 := Lib.hid hw1; clear hw1
  have H_hg := Lib.hid hg; clear hg
  go_wp2_with (fail)
  go_loopw [6] (fun i wr => ∃ k : Int, -1 ≤ k ∧ k ≤ 19 ∧ i = .int .i64 k ∧ Hid (∀ i : Nat, k < (i : Int) → i ≤ 19 → ¬ okN N d i) ∧ Hid (Fresh w1 wr)) (fun i _ => (intOf i + 1).toNat)
  case atStart => exact ⟨19, by omega, by omega, rfl, Lib.hid (fun i h1 h2 => by omega), Keep.refl _ _⟩
  case round =>
    obtain ⟨k, hk1, hk2, rfl, hno, hfr⟩ := hrel
    by_cases hk : 0 ≤ k
    · obtain ⟨j, rfl⟩ := Int.eq_ofNat_of_zero_le hk
      have hj : j ≤ 19 := by omega
      have t1 : decide (0 ≤ (j : Int)) = true := by simp
      have b1 := row_fresh H_b1.out hfr.out
      have k0 := row_cell b1 0
      have k1 := row_cell b1 1
      have k2 := row_cell b1 2
      simp at k0 k1 k2
      have hrd := H_hround.out wr j (fresh_trans H_hf.out hfr.out) hj
      clear b1
      have H_hrd := Lib.hid hrd; clear hrd
      go_wp2_with (fail)
      refine H_hrd.out.mono ?_
      rintro e w3 ⟨x, rfl, ⟨nb, v, l, rfl, s1, s2, s3, s4⟩, f3⟩
      obtain ⟨al, cl, rfl⟩ := s1.form
      have hsv := sgn_sint s4
      have hlen : l.length ≤ 400 := s2.s_len_le (by rw [hsv]; exact rhe_spow H_hz.out hj)
      obtain ⟨p, hp1, hp2⟩ := prec_spow (n := 400) (c := sval l) (by rw [hsv]; exact rhe_spow H_hz.out hj)
      have f3 := fresh_trans hfr.out f3
      obtain ⟨h, hh⟩ : ∃ h, h = w3.heap.size := ⟨_, rfl⟩
      clear k0 k1 k2
      have H_hh := Lib.hid hh; clear hh
      have H_f3 := Lib.hid f3; clear f3
      go_wp2_with (fail)
      generalize hw4 : w3.alloc _ = w4
      have f4 : Fresh w3 w4 := by rw [← hw4]; exact (Keep.refl _ _).alloc _
      have r4 : w4.heap[h]? = some (.cells #[.bool nb, .slice al l.length cl, .int .i64 (-(j : Int))] 45 (0, 0)) := by rw [← hw4, H_hh.out]; exact heap_alloc_new w3 _
      rw [← H_hh.out]
      have hdig := Digits_any _ l p w4 (s1.fresh f4) s2 (by omega) hp2 (by omega)
      have hiff : okN N d j ↔ p ≤ 19 := by
        rw [← hp2.lt_iff, hsv]
        exact Iff.rfl
      have s1 := s1.fresh f4
      have f4 := fresh_trans H_f3.out f4
      clear hlen hp1 hp2 hsv H_f3
      have H_hdig := Lib.hid hdig; clear hdig
      have H_hiff := Lib.hid hiff; clear hiff
      have H_f4 := Lib.hid f4; clear f4
      have H_s1 := Lib.hid s1; clear s1
      have H_s2 := Lib.hid s2; clear s2
      have H_s3 := Lib.hid s3; clear s3
      have H_s4 := Lib.hid s4; clear s4
      have H_r4 := Lib.hid r4; clear r4
      have H_hw4 := Lib.hid hw4; clear hw4
      refine H_hdig.out.mono ?_
      rintro e w5 ⟨rfl, f5⟩
      have s1 := H_s1.out.fresh f5
      have r4 := row_fresh H_r4.out f5
      have f5 := fresh_trans H_f4.out f5
      have b2 := row_fresh H_b2.out f5
      clear H_s1 H_r4 H_f4
      by_cases hok : okN N d j
      · have hp19 : p ≤ 19 := H_hiff.out.1 hok
        have t2 : decide ((p : Int) ≤ 19) = true := by simp; omega
        obtain ⟨hjt, _⟩ := room_at H_hd.out (.inl ⟨t, rfl, H_ht.out⟩) hok hj (fun i h1 h2 => hno.out i (by omega) h2)
        obtain rfl := top_unique H_hd.out hjt H_ht.out
        have m0 := row_cell r4 0
        have m1 := row_cell r4 1
        have m2 := row_cell r4 2
        have p0 := row_cell b2 0
        have p1 := row_cell b2 1
        have p2 := row_cell b2 2
        simp at m0 m1 m2 p0 p1 p2
        have z0 : w5.frozen? ⟨g + 1, 0, none⟩ = false := frozen_of_row _ _ _ _ _ b2
        have z1 : w5.frozen? ⟨g + 1, 1, none⟩ = false := frozen_of_row _ _ _ _ _ b2
        have z2 : w5.frozen? ⟨g + 1, 2, none⟩ = false := frozen_of_row _ _ _ _ _ b2
        clear hok hjt
        have H_s1 := Lib.hid s1; clear s1
        have H_r4 := Lib.hid r4; clear r4
        have H_f5 := Lib.hid f5; clear f5
        have H_b2 := Lib.hid b2; clear b2
        go_wp2_with (fail)
        refine bodyPost_ret (results_cell_tmp_row rfl _ _ (g + 1) 45 #[.bool nb, .slice al l.length cl, .int .i64 (-(j : Int))] (0, 0) _ rfl (row_set (row_set (row_set H_b2.out))) Tryz.underlying45 rfl (by kernel_rfl)) rfl ?_
        have g1 := H_s1.out.off p0 (fun n e => by simp at e)
        exact ⟨_, rfl, ⟨nb, _, l, rfl, ((H_s1.out.setOff g1).setOff g1).setOff g1, H_s2.out, H_s3.out, H_s4.out⟩, (fresh_trans H_hf.out H_f5.out).set3 (by have := H_hg.out; omega)⟩
      · have hp19 : ¬ p ≤ 19 := fun h => hok (H_hiff.out.2 h)
        have t2 : decide ((p : Int) ≤ 19) = false := by simp; omega
        have hno2 : ∀ i : Nat, (j : Int) - 1 < (i : Int) → i ≤ 19 → ¬ okN N d i := fun i h1 h2 => by
          rcases Nat.lt_or_ge j i with h | h
          · exact hno.out i (by omega) h2
          · have : i = j := by omega
            rw [this]; exact hok
        clear hok
        have H_hno2 := Lib.hid hno2; clear hno2
        have H_f5 := Lib.hid f5; clear f5
        have H_s1 := Lib.hid s1; clear s1
        have H_r4 := Lib.hid r4; clear r4
        have H_b2 := Lib.hid b2; clear b2
        go_wp2_with (fail)
        go_roundw
        case rel => exact ⟨(j : Int) - 1, by omega, by omega, by simp, H_hno2, H_f5⟩
        case measure => simp [intOf] <;> omega
    · have t1 : decide (0 ≤ k) = false := by simp; omega
      exact absurd H_ht.out.2.1 (hno.out t (by omega) H_ht.out.1)

end Go.Proofs.YtmgidnjpkbgmgabGreatDoor
