/- The reference's Frac.Round by any way of rounding, at any number of places. Printed by gen_rdw.py. -/
import Derived.Test.YtllencgncinphaaGreatDoorKE17
namespace Go.Proofs.YtllencgncinphaaGreatDoor
open Go.RowKit
open Go.Lib (hid)
set_option maxRecDepth 20000
set_option maxHeartbeats 8000000

def rdW (ru : Bool → Int → Bool → Bool) (neg : Bool) (a b : Nat) : Nat := a / b + (if a % b ≠ 0 ∧ ru neg (cmpN (a % b + a % b) b) (decide (a / b % 2 = 1)) = true then 1 else 0)

theorem rdW_exact {ru : Bool → Int → Bool → Bool} {na : Bool} {a b : Nat} (h : a % b = 0) : rdW ru na a b = a / b := by
 unfold rdW
 rw [if_neg (fun hh => hh.1 h)]
 rfl

theorem rdW_zero {ru : Bool → Int → Bool → Bool} {na : Bool} {b : Nat} : rdW ru na 0 b = 0 := by
 rw [rdW_exact (Nat.zero_mod _), Nat.zero_div]

theorem rdW_up {ru : Bool → Int → Bool → Bool} {na : Bool} {a b q r : Nat} (hq : q = a / b) (hr : r = a % b) (h0 : r ≠ 0) :
 rdW ru na a b = q + (if ru na (cmpN (r + r) b) (decide (q % 2 = 1)) = true then 1 else 0) := by
 unfold rdW
 rw [← hq, ← hr]
 congr 1
 simp only [h0, ne_eq, not_false_eq_true, true_and]

theorem sint_neg {na : Bool} {la : List Nat} (hl : Norm la) (hc : la = [] → na = false) : decide (sint na la < 0) = na := by
 cases na
 · simp [sint]
 · have hp := sint_pos hl (fun e => by have := hc e; simp at this)
   simp [sint]; omega

theorem Norm.s_pos {l : List Nat} (h : Norm l) (h0 : 0 < l.length) : 0 < sval l := sint_pos h (fun e => by rw [e] at h0; simp at h0)

def RdI (w : World) (x : Value) (z m : Int) : Prop := ∃ nb v l, x = .agg #[.bool nb, v, .int .i64 m] ∧ SNat w v l ∧ Norm l ∧ (l = [] → nb = false) ∧ sint nb l = z

theorem RdI.fresh {w w' : World} {x : Value} {z m : Int} (h : RdI w x z m) (hk : Fresh w w') : RdI w' x z m := by
 obtain ⟨nb, v, l, h1, h2, h3⟩ := h
 exact ⟨nb, v, l, h1, h2.fresh hk, h3⟩

def RdIRet (w : World) (z m : Int) (e : Ending) (w' : World) : Prop := ∃ x, e = .returned x ∧ RdI w' x z m ∧ Fresh w w'

theorem RoundW_pos (way : Int) (ru : Bool → Int → Bool → Bool) (hro : ∀ neg h odd W, Calls Tryz.prog 52 #[.int .i64 way, .bool neg, .int .i64 h, .bool odd] W (fun e w' => e = .returned (.bool (ru neg h odd)) ∧ w' = W))
 (xw : Value) (z : Int) (d p : Nat) (w : World) (hx : SFr w xw z d) (hd : 0 < d) (hz : z.natAbs < spow 300) (hdd : d < spow 300) (hp : p ≤ 1000) :
 Calls Tryz.prog 17 #[xw, .int .i64 p, .int .i64 way] w (RdIRet w (sgnN z (rdW ru (decide (z < 0)) (z.natAbs * 10 ^ p) d)) (-(p : Int))) := by
 obtain ⟨na, va, la, dv, dl, rfl, ha, hna, hca, rfl, hda, hdna, rfl⟩ := hx
 rw [sint_neg hna hca]
 rw [sint_natAbs] at hz ⊢
 have l1 := hna.s_len_le hz
 have l2 := hdna.s_len_le hdd
 have h0 : sval la = 0 → rdW ru na (sval la * 10 ^ p) (sval dl) = 0 := fun h => by rw [h]; rw [Nat.zero_mul]; exact rdW_zero
 obtain ⟨aa, ca, rfl⟩ := ha.form
 obtain ⟨ad, cd, rfl⟩ := hda.form
 obtain ⟨g, hg⟩ : ∃ g, g = w.heap.size := ⟨_, rfl⟩
 have bx := boxes2 w #[.bool na, .slice aa la.length ca, .slice ad dl.length cd] #[.bool false, .slice none 0 0, .int .i64 0] 30 38 g hg
 have t1 : decide (0 ≤ (p : Int)) = true := by simp
 have tw : IntKind.i64.wrap (-(p : Int)) = -(p : Int) := by rw [IntKind.wrap_i64]; omega
 have hp10 := fun W => Pow10_any p W (by omega)
 have H_bx := hid bx; have H_ha := hid ha; have H_hda := hid hda; have H_hna := hid hna; have H_hdna := hid hdna; have H_hca := hid hca; have H_hz := hid hz; have H_hdd := hid hdd; have H_hd := hid hd; have H_hp10 := hid hp10; have H_h0 := hid h0; have H_hro := hid hro; clear bx ha hda hna hdna hca hz hdd hd hp10 h0 hro
 go_enter Tryz.func17, Tryz.ntmps17
 go_wp2_with (fail)
 generalize hw1 : (w.alloc _).alloc _ = w1
 rw [← hg]
 obtain ⟨b1, b2, hf⟩ := H_bx.out w1 hw1
 have k0 := rwc b1 0
 have k1 := rwc b1 1
 have k2 := rwc b1 2
 simp at k0 k1 k2
 have H_b1 := hid b1; have H_b2 := hid b2; have H_hf := hid hf; have H_hw1 := hid hw1; have H_hg := hid hg; clear b1 b2 hf hw1 hg
 go_wp2_with (go_quiet (fail))
 refine (H_hp10.out _).mono ?_
 rintro e w2 ⟨pv, pl, rfl, p1, p2, p3, p4⟩
 have f2 : Fresh w1 w2 := by first | exact p4 | exact p4.of_drew | exact p4.of_drewN
 obtain ⟨ap, cp, rfl⟩ := p1.form
 have k0 := cfr k0 f2
 have hpl : pl.length ≤ 300 := p2.s_len_le (by rw [p3]; exact pow_spow (by omega))
 have hmul := NatMul_any _ _ la pl w2 ((H_ha.out.fresh H_hf.out).fresh f2) p1 (by omega)
 rw [p3] at hmul
 have b2 := rfr H_b2.out f2
 have f2 := ftr H_hf.out f2
 clear p1 p2 p4 k1 k2 H_b2
 have H_p3 := hid p3; have H_f2 := hid f2; have H_hmul := hid hmul; have H_b2 := hid b2; clear p3 f2 hmul b2
 go_wp2_with (fail)
 refine H_hmul.out.mono ?_
 rintro e w3 ⟨nv, nl, rfl, n1, n2, n3, n4⟩
 obtain ⟨an, cn, rfl⟩ := n1.form
 have k0 := cfr k0 n4
 have hlt : sval nl < spow 600 := by
  rw [n3]
  have e1 := H_hz.out
  have e2 : 10 ^ p < spow 300 := pow_spow (by omega)
  have := Nat.mul_lt_mul'' e1 e2
  rwa [← spow_add] at this
 have hnl : nl.length ≤ 600 := n2.s_len_le hlt
 have f3 := ftr H_f2.out n4
 have hda := H_hda.out.fresh f3
 have hdiv := NatDiv_any _ _ nl dl w3 n1 hda n2 H_hdna.out (by omega) H_hd.out
 rw [n3] at hdiv
 have b2 := rfr H_b2.out n4
 have hlt : sval dl < spow 600 := Nat.lt_of_lt_of_le H_hdd.out (spow_mono (by omega))
 clear n1 n2 n4 H_p3 H_hmul H_b2 H_hda
 have H_f3 := hid f3; have H_hdiv := hid hdiv; have H_n3 := hid n3; have H_b2 := hid b2; have H_hda := hid hda; have H_hlt := hid hlt; clear f3 hdiv n3 b2 hda hlt
 go_wp2_with (fail)
 refine H_hdiv.out.mono ?_
 rintro e w4 ⟨qv, rv, ql, rl, rfl, q1, q2, q3, r1, r2, r3, f4⟩
 obtain ⟨aq, cq, rfl⟩ := q1.form
 obtain ⟨ar, cr, rfl⟩ := r1.form
 have k0 := cfr k0 f4
 have b2 := rfr H_b2.out f4
 have hda := H_hda.out.fresh f4
 have f4 := ftr H_f3.out f4
 clear H_hdiv H_b1 H_b2 H_hda
 have hqn : ql.length ≤ 600 := q2.s_len_le (by
  rw [q3]
  refine Nat.lt_of_le_of_lt (Nat.div_le_self _ _) ?_
  have e1 := H_hz.out
  have e2 : 10 ^ p < spow 300 := pow_spow (by omega)
  have := Nat.mul_lt_mul'' e1 e2
  rwa [← spow_add] at this)
 have hrl : rl.length ≤ 600 := r2.s_len_le (by
  rw [r3]
  exact Nat.lt_trans (Nat.mod_lt _ H_hd.out) H_hlt.out)
 obtain ⟨v, hv⟩ : ∃ v, v = rdW ru na (sval la * 10 ^ p) (sval dl) := ⟨_, rfl⟩
 have h0 := H_h0.out
 rw [← hv] at h0
 clear H_h0
 rcases Nat.eq_zero_or_pos rl.length with hr0 | hr0
 · have hvq : v = sval ql := by
    have hm0 := r3
    rw [List.eq_nil_of_length_eq_zero hr0] at hm0
    rw [hv, q3]
    exact rdW_exact hm0.symm
   rw [hr0]
   clear r1 r2 r3 hr0 hrl hda
   have H_q1 := hid q1; have H_q2 := hid q2; have H_q3 := hid q3; have H_f4 := hid f4; have H_b2 := hid b2; have H_hvq := hid hvq; have H_hv := hid hv; have H_h0 := hid h0; clear q1 q2 q3 f4 b2 hvq hv h0
   go_wp2_with (go_quiet (fail))
   refine (wholeOf_any na _ ql _ ?c9_1).mono ?_
   case c9_1 => first | exact H_q1.out | exact (H_q1.out).drew | exact (H_q1.out).drewN _
   rintro e w9 ⟨rfl, f9⟩
   have f9 : Fresh w4 w9 := by first | exact f9 | exact f9.of_drew | exact f9.of_drewN
   have b3 := rfr H_b2.out f9
   have p0 := rwc b3 0
   have p1 := rwc b3 1
   have p2 := rwc b3 2
   simp at p0 p1 p2
   have z0 : w9.frozen? ⟨g + 1, 0, none⟩ = false := frozen_of_row _ _ _ _ _ b3
   have z1 : w9.frozen? ⟨g + 1, 1, none⟩ = false := frozen_of_row _ _ _ _ _ b3
   have z2 : w9.frozen? ⟨g + 1, 2, none⟩ = false := frozen_of_row _ _ _ _ _ b3
   have x1 := (H_q1.out).fresh f9
   have fw := ftr H_f4.out f9
   obtain ⟨bn, hbn⟩ : ∃ b, b = (na && decide (0 < ql.length)) := ⟨_, rfl⟩
   rw [← hbn]
   clear f9
   have H_b3 := hid b3; have H_x1 := hid x1; have H_fw := hid fw; have H_hbn := hid hbn; clear b3 x1 fw hbn
   go_wp2_with (fail)
   refine bodyPost_ret (results_cell_row rfl _ _ (g + 1) 38 #[.bool bn, .slice aq ql.length cq, .int .i64 (-(p : Int))] (0, 0) _ rfl (rst (rst (rst H_b3.out))) Tryz.underlying38 rfl (by kernel_rfl)) rfl ?_
   have g1 := H_x1.out.off p0 (fun n e => by simp at e)
   exact ⟨_, rfl, ⟨bn, _, ql, rfl, ((H_x1.out.setOff g1).setOff g1).setOff g1, H_q2.out, fun e => by rw [H_hbn.out, e]; simp, by rw [H_hbn.out]; exact sint_sgn H_hna.out H_q2.out H_hca.out (H_hvq.out.symm.trans H_hv.out) (fun h => H_hv.out.symm.trans (H_h0.out h))⟩, H_fw.out.set3 (by have := H_hg.out; omega)⟩
 · have hr0N : ¬ rl.length = 0 := by omega
   have tr : decide (0 < (rl.length : Int)) = true := by simp; omega
   have hup := rdW_up (ru := ru) (na := na) q3 r3 (by
    intro e
    have := r2.s_pos (by omega)
    omega)
   rw [← hv] at hup
   have hadd : ∀ W, Fresh w4 W → Calls Tryz.prog 54 #[.slice ar rl.length cr, .slice ar rl.length cr] W (SRet W (sval rl + sval rl)) := fun W hW => NatAdd_any _ _ rl rl W (r1.fresh hW) (r1.fresh hW) r2 r2 (by omega) (by omega)
   obtain ⟨rn, hrn⟩ : ∃ rn, rn = rl.length := ⟨_, rfl⟩
   rw [← hrn] at tr hadd hr0N ⊢
   have hrn0 : 0 < rn := by omega
   clear hr0
   have hcmp : ∀ W sv sl, Fresh w4 W → SNat W sv sl → Norm sl → sval sl = sval rl + sval rl → Calls Tryz.prog 53 #[sv, .slice ad dl.length cd] W (Quiet W (.int .i64 (cmpN (sval rl + sval rl) (sval dl)))) := fun W sv sl hW hs hn hv2 => by
    have := NatCmp_any sv _ sl dl W hs (hda.fresh hW) hn H_hdna.out
    rw [hv2] at this
    exact this
   clear hda
   generalize cmpN (sval rl + sval rl) (sval dl) = cz at *
   rcases Nat.eq_zero_or_pos ql.length with hq0 | hq0
   · have hodd : decide (sval ql % 2 = 1) = false := by rw [List.eq_nil_of_length_eq_zero hq0]; rfl
     rw [hodd] at hup
     have hrnd := fun W => H_hro.out na cz false W
     generalize ru na cz false = up at *
     rw [hq0] at q1 ⊢
     have H_q1 := hid q1; have H_q2 := hid q2; have H_q3 := hid q3; have H_f4 := hid f4; have H_b2 := hid b2; have H_hv := hid hv; have H_h0 := hid h0; have H_hadd := hid hadd; have H_hcmp := hid hcmp; have H_hrn := hid hrn; have H_r1 := hid r1; have H_r2 := hid r2; have H_r3 := hid r3; have H_hup := hid hup; have H_hodd := hid hodd; have H_hq0 := hid hq0; have H_hrnd := hid hrnd; clear q1 q2 q3 f4 b2 hv h0 hadd hcmp hrn r1 r2 r3 hup hodd hq0 hrnd
     go_wp2_with (fail)
     refine rgE (S := (fun (w' : World) => w'.cell? ⟨g, 0, none⟩ = some (.bool na))) 24 (by kernel_rfl) (by exact k0) (fun hHeld => ?_)
     refine tkP (i := 0) (v := ?v0_1) rfl (by kernel_rfl) (fun _ _ _ h => h) ⟨by rfl, ?y0_1⟩ (by assumption) ?r0_1
     case y0_1 => (intro w; go_simp; try with_reducible rfl)
     try simp only [Act.put, yA, yB, yD, yE, yF]
     refine tkP (i := 1) (v := ?v1_1) rfl (by kernel_rfl) (fun _ _ _ h => h) ⟨by rfl, ?y1_1⟩ (by assumption) ?r1_1
     case y1_1 => (intro w; go_simp; try with_reducible rfl)
     try simp only [Act.put, yA, yB, yC, yD, yE, yF]
     refine tkP (i := 2) (v := ?v2_1) rfl (by kernel_rfl) (fun _ _ _ h => h) ⟨by rfl, ?y2_1⟩ (by assumption) ?r2_1
     case y2_1 => (intro w; go_simp; try with_reducible rfl)
     try simp only [Act.put, yA, yB, yC, yD, yE, yF]
     refine tkP (i := 3) (v := .bool true) rfl (by kernel_rfl) (fun _ _ _ h => h) ⟨by rfl, ?y3_1⟩ (by assumption) ?r3_1
     case y3_1 => (intro w; go_simp)
     try simp only [Act.put, yA, yB, yC, yD, yE, yF]
     refine tkP (i := 4) (v := ?v4_1) rfl (by kernel_rfl) (fun _ _ _ h => h) ⟨by rfl, ?y4_1⟩ (by assumption) ?r4_1
     case y4_1 => (intro w; go_simp; try with_reducible rfl)
     try simp only [Act.put, yA, yB, yC, yD, yE, yF]
     refine tkP (i := 5) (v := ?v5_1) rfl (by kernel_rfl) (fun _ _ _ h => h) ⟨by rfl, ?y5_1⟩ (by assumption) ?r5_1
     case y5_1 => (intro w; go_simp; try with_reducible rfl)
     try simp only [Act.put, yA, yB, yC, yD, yE, yF]
     refine tkP (i := 6) (v := ?v6_1) rfl (by kernel_rfl) (fun _ _ _ h => h) ⟨by rfl, ?y6_1⟩ (by assumption) ?r6_1
     case y6_1 => (intro w; go_simp; try with_reducible rfl)
     try simp only [Act.put, yA, yB, yC, yD, yE, yF]
     refine tkL (i := 7) (c := 23) (v := ?v7_1) rfl (by kernel_rfl) (fun _ _ _ h => h) ⟨by rfl, ?y7_1⟩ (by assumption) ?r7_1
     case y7_1 => (intro w hSw; go_split_ands; go_simp; try with_reducible rfl)
     try simp only [Act.put, yA, yB, yC, yD, yE, yF]
     refine tkP (i := 8) (v := ?v8_1) rfl (by kernel_rfl) (fun _ _ _ h => h) ⟨by rfl, ?y8_1⟩ (by assumption) ?r8_1
     case y8_1 => (intro w; go_simp; try with_reducible rfl)
     try simp only [Act.put, yA, yB, yC, yD, yE, yF]
     refine tkP (i := 9) (v := ?v9_1) rfl (by kernel_rfl) (fun _ _ _ h => h) ⟨by rfl, ?y9_1⟩ (by assumption) ?r9_1
     case y9_1 => (intro w; go_simp; try with_reducible rfl)
     try simp only [Act.put, yA, yB, yC, yD, yE, yF]
     refine tkP (i := 11) (v := ?v11_1) rfl (by kernel_rfl) (fun _ _ _ h => h) ⟨by rfl, ?y11_1⟩ (by assumption) ?r11_1
     case y11_1 => (intro w; go_simp; try with_reducible rfl)
     try simp only [Act.put, yA, yB, yC, yD, yE, yF]
     refine tkP (i := 13) (v := ?v13_1) rfl (by kernel_rfl) (fun _ _ _ h => h) ⟨by rfl, ?y13_1⟩ (by assumption) ?r13_1
     case y13_1 => (intro w; go_simp; try with_reducible rfl)
     try simp only [Act.put, yA, yB, yC, yD, yE, yF]
     refine tkP (i := 14) (v := ?v14_1) rfl (by kernel_rfl) (fun _ _ _ h => h) ⟨by rfl, ?y14_1⟩ (by assumption) ?r14_1
     case y14_1 => (intro w; go_simp; try with_reducible rfl)
     try simp only [Act.put, yA, yB, yC, yD, yE, yF]
     refine tkP (i := 15) (v := ?v15_1) rfl (by kernel_rfl) (fun _ _ _ h => h) ⟨by rfl, ?y15_1⟩ (by assumption) ?r15_1
     case y15_1 => (intro w; go_simp; try with_reducible rfl)
     try simp only [Act.put, yA, yB, yC, yD, yE, yF]
     refine tkO (i := 10) rfl (by kernel_rfl) (fun K hK => ?_)
     go_simp
     refine (H_hadd.out _ ?c1).mono ?_; (case c1 => first| exact Keep.refl _ _| exact (Keep.refl _ _).drew| exact (Keep.refl _ _).drewN _); rintro e w5 ⟨sv, sl, rfl, s1, s2, s3, s4⟩; have hs5 : Fresh w4 w5 := (by first| exact s4| exact s4.of_drew| exact s4.of_drewN); obtain ⟨as_, cs_, rfl⟩ := s1.form; have m0 := cfr k0 hs5; have H_s1 := hid s1; have H_s2 := hid s2; have H_s3 := hid s3; have H_hs5 := hid hs5; clear s1 s2 s3 s4 hs5
     go_wp2_with (fail)
     have hHeld1 : ((fun (w' : World) => w'.cell? ⟨g, 0, none⟩ = some (.bool na))) _ := m0
     refine hK.out _ _ (fun _ => hHeld1) ?_
     clear hK K
     try simp only [Act.put, yA, yB, yC, yD, yE, yF]
     refine tkO (i := 12) rfl (by kernel_rfl) (fun K hK => ?_)
     go_simp
     refine (H_hcmp.out _ _ _ H_hs5.out H_s1.out H_s2.out H_s3.out).mono ?_; rintro e w6 ⟨rfl, nq6, rfl⟩; have s0 := cfr m0 ((Keep.refl (fun _ => False) w5).drewN nq6); have H_f6 := hid (H_hs5.out.drewN nq6); generalize w5.drewN nq6 = w6 at *
     go_wp2_with (fail)
     have hHeld2 : ((fun (w' : World) => w'.cell? ⟨g, 0, none⟩ = some (.bool na))) _ := s0
     refine hK.out _ _ (fun _ => hHeld2) ?_
     clear hK K
     try simp only [Act.put, yA, yB, yC, yD, yE, yF]
     refine tkP (i := 16) (v := .bool false) rfl (by kernel_rfl) (fun _ _ _ h => h) ⟨by rfl, ?y16_1⟩ (by assumption) ?r16_1
     case y16_1 => (intro w; go_simp)
     try simp only [Act.put, yA, yB, yC, yD, yE, yF]
     refine tkU (i := 17) rfl (by kernel_rfl) (fun _ _ _ h => h) (by rfl) (by assumption) ?_
     try simp only [Act.put, yA, yB, yC, yD, yE, yF]
     refine tkU (i := 18) rfl (by kernel_rfl) (fun _ _ _ h => h) (by rfl) (by assumption) ?_
     try simp only [Act.put, yA, yB, yC, yD, yE, yF]
     refine tkU (i := 19) rfl (by kernel_rfl) (fun _ _ _ h => h) (by rfl) (by assumption) ?_
     try simp only [Act.put, yA, yB, yC, yD, yE, yF]
     refine tkU (i := 20) rfl (by kernel_rfl) (fun _ _ _ h => h) (by rfl) (by assumption) ?_
     try simp only [Act.put, yA, yB, yC, yD, yE, yF]
     refine tkU (i := 21) rfl (by kernel_rfl) (fun _ _ _ h => h) (by rfl) (by assumption) ?_
     try simp only [Act.put, yA, yB, yC, yD, yE, yF]
     refine tkP (i := 22) (v := ?v22_1) rfl (by kernel_rfl) (fun _ _ _ h => h) ⟨by rfl, ?y22_1⟩ (by assumption) ?r22_1
     case y22_1 => (intro w; go_simp; try with_reducible rfl)
     try simp only [Act.put, yA, yB, yC, yD, yE, yF]
     refine tkO (i := 23) rfl (by kernel_rfl) (fun K hK => ?_)
     go_simp
     refine (H_hrnd.out _).mono ?_; rintro e w7 ⟨rfl, hsame⟩; subst hsame
     go_wp2_with (fail)
     have hHeld3 : ((fun (w' : World) => w'.cell? ⟨g, 0, none⟩ = some (.bool na))) _ := s0
     refine hK.out _ _ (fun _ => hHeld3) ?_
     clear hK K
     try simp only [Act.put, yA, yB, yC, yD, yE, yF]
     refine tkO (i := 24) rfl (by kernel_rfl) (fun K hK => ?_)
     go_simp
     refine hK.out _ _ (fun h => Bool.noConfusion (show true = false from h)) ?_
     clear hK K
     try simp only [Act.put, yA, yB, yC, yD, yE, yF]
     refine tkD (by kernel_rfl) ?_ _
     have fc := ftr H_f4.out H_f6.out
     have b2 := rfr H_b2.out H_f6.out
     have q1 := H_q1.out.fresh H_f6.out
     clear H_b2 H_q1 H_f4
     have H_fc := hid fc; have H_b2 := hid b2; have H_q1 := hid q1; clear fc b2 q1
     cases up
     · have hvq : v = sval ql := by have := H_hup.out; simpa using this
       have H_hvq := hid hvq; clear hvq
       go_wp2_with (fail)
       refine (wholeOf_any na _ ql _ ?c9_2).mono ?_
       case c9_2 => first | exact H_q1.out | exact (H_q1.out).drew | exact (H_q1.out).drewN _
       rintro e w9 ⟨rfl, f9⟩
       have f9 : Fresh w7 w9 := by first | exact f9 | exact f9.of_drew | exact f9.of_drewN
       have b3 := rfr H_b2.out f9
       have p0 := rwc b3 0
       have p1 := rwc b3 1
       have p2 := rwc b3 2
       simp at p0 p1 p2
       have z0 : w9.frozen? ⟨g + 1, 0, none⟩ = false := frozen_of_row _ _ _ _ _ b3
       have z1 : w9.frozen? ⟨g + 1, 1, none⟩ = false := frozen_of_row _ _ _ _ _ b3
       have z2 : w9.frozen? ⟨g + 1, 2, none⟩ = false := frozen_of_row _ _ _ _ _ b3
       have x1 := (H_q1.out).fresh f9
       have fw := ftr H_fc.out f9
       obtain ⟨bn, hbn⟩ : ∃ b, b = (na && decide (0 < ql.length)) := ⟨_, rfl⟩
       rw [← hbn]
       clear f9
       have H_b3 := hid b3; have H_x1 := hid x1; have H_fw := hid fw; have H_hbn := hid hbn; clear b3 x1 fw hbn
       go_wp2_with (fail)
       refine bodyPost_ret (results_cell_row rfl _ _ (g + 1) 38 #[.bool bn, .slice aq 0 cq, .int .i64 (-(p : Int))] (0, 0) _ rfl (rst (rst (rst H_b3.out))) Tryz.underlying38 rfl (by kernel_rfl)) rfl ?_
       have g1 := H_x1.out.off p0 (fun n e => by simp at e)
       exact ⟨_, rfl, ⟨bn, _, ql, rfl, ((H_x1.out.setOff g1).setOff g1).setOff g1, H_q2.out, fun e => by rw [H_hbn.out, e]; simp, by rw [H_hbn.out]; exact sint_sgn H_hna.out H_q2.out H_hca.out (H_hvq.out.symm.trans H_hv.out) (fun h => H_hv.out.symm.trans (H_h0.out h))⟩, H_fw.out.set3 (by have := H_hg.out; omega)⟩
     · have hvq0 : v = sval ql + 1 := by have := H_hup.out; simpa using this
       have H_hvq0 := hid hvq0; clear hvq0
       go_wp2_with (fail)
       refine (one_any _).mono ?_
       rintro e w8 ⟨ov, ol, rfl, o1, o2, o3, f7⟩
       have f7 : Fresh w7 w8 := by first | exact f7 | exact f7.of_drew | exact f7.of_drewN
       obtain ⟨ao, co, rfl⟩ := o1.form
       have hol : ol.length ≤ 1 := o2.s_len_le (by rw [o3]; unfold spow; omega)
       have hadd2 := NatAdd_any _ _ ql ol w8 (H_q1.out.fresh f7) o1 H_q2.out o2 (by omega) (by omega)
       have b2 := rfr H_b2.out f7
       have fc := ftr H_fc.out f7
       have s0 := cfr s0 f7
       clear H_b2 H_fc o1 o2
       have H_hadd2 := hid hadd2; have H_o3 := hid o3; have H_f7 := hid f7; have H_b2 := hid b2; have H_fc := hid fc; have H_hol := hid hol; clear hadd2 o3 f7 b2 fc hol
       go_wp2_with (fail)
       refine H_hadd2.out.mono ?_
       rintro e w10 ⟨tv, tl, rfl, y1, y2, y3, f8⟩
       obtain ⟨at_, ct_, rfl⟩ := y1.form
       have b2 := rfr H_b2.out f8
       have fc := ftr H_fc.out f8
       have hvq : v = sval tl := by rw [y3, H_hvq0.out, H_o3.out]
       have s0 := cfr s0 f8
       clear H_b2 H_fc y3 f8 H_hadd2
       have H_y1 := hid y1; have H_y2 := hid y2; have H_b2 := hid b2; have H_fc := hid fc; have H_hvq := hid hvq; clear y1 y2 b2 fc hvq
       go_wp2_with (fail)
       refine (wholeOf_any na _ tl _ ?c9_3).mono ?_
       case c9_3 => first | exact H_y1.out | exact (H_y1.out).drew | exact (H_y1.out).drewN _
       rintro e w9 ⟨rfl, f9⟩
       have f9 : Fresh w10 w9 := by first | exact f9 | exact f9.of_drew | exact f9.of_drewN
       have b3 := rfr H_b2.out f9
       have p0 := rwc b3 0
       have p1 := rwc b3 1
       have p2 := rwc b3 2
       simp at p0 p1 p2
       have z0 : w9.frozen? ⟨g + 1, 0, none⟩ = false := frozen_of_row _ _ _ _ _ b3
       have z1 : w9.frozen? ⟨g + 1, 1, none⟩ = false := frozen_of_row _ _ _ _ _ b3
       have z2 : w9.frozen? ⟨g + 1, 2, none⟩ = false := frozen_of_row _ _ _ _ _ b3
       have x1 := (H_y1.out).fresh f9
       have fw := ftr H_fc.out f9
       obtain ⟨bn, hbn⟩ : ∃ b, b = (na && decide (0 < tl.length)) := ⟨_, rfl⟩
       rw [← hbn]
       clear f9
       have H_b3 := hid b3; have H_x1 := hid x1; have H_fw := hid fw; have H_hbn := hid hbn; clear b3 x1 fw hbn
       go_wp2_with (fail)
       refine bodyPost_ret (results_cell_row rfl _ _ (g + 1) 38 #[.bool bn, .slice at_ tl.length ct_, .int .i64 (-(p : Int))] (0, 0) _ rfl (rst (rst (rst H_b3.out))) Tryz.underlying38 rfl (by kernel_rfl)) rfl ?_
       have g1 := H_x1.out.off p0 (fun n e => by simp at e)
       exact ⟨_, rfl, ⟨bn, _, tl, rfl, ((H_x1.out.setOff g1).setOff g1).setOff g1, H_y2.out, fun e => by rw [H_hbn.out, e]; simp, by rw [H_hbn.out]; exact sint_sgn H_hna.out H_y2.out H_hca.out (H_hvq.out.symm.trans H_hv.out) (fun h => H_hv.out.symm.trans (H_h0.out h))⟩, H_fw.out.set3 (by have := H_hg.out; omega)⟩
   · have hq0N : ¬ ql.length = 0 := by omega
     have tq : decide (0 < (ql.length : Int)) = true := by simp; omega
     have hodd : decide (sval ql % 2 = 1) = decide (ql.getD 0 0 % 2 = 1) := by rw [low_odd]
     rw [hodd] at hup
     obtain ⟨qg, rfl, hcq, hgq, hcells⟩ := q1.cells rfl hq0
     have kq := hcells 0 (by omega)
     obtain ⟨x, hx⟩ : ∃ x, x = ql.getD 0 0 := ⟨_, rfl⟩
     rw [← hx] at kq hup
     have hob : ((x : Int).tmod 2 == 1) = decide (x % 2 = 1) := by
      rw [Int.tmod_eq_emod_of_nonneg (by omega)]
      rcases Nat.mod_two_eq_zero_or_one x with h | h
      · have e : (x : Int) % 2 = 0 := by omega
        rw [e, h]; rfl
      · have e : (x : Int) % 2 = 1 := by omega
        rw [e, h]; rfl
     generalize decide (x % 2 = 1) = ob at *
     have hrnd := fun W => H_hro.out na cz ob W
     generalize ru na cz ob = up at *
     clear hcells
     have H_q1 := hid q1; have H_q2 := hid q2; have H_q3 := hid q3; have H_f4 := hid f4; have H_b2 := hid b2; have H_hv := hid hv; have H_h0 := hid h0; have H_hadd := hid hadd; have H_hcmp := hid hcmp; have H_hrn := hid hrn; have H_r1 := hid r1; have H_r2 := hid r2; have H_r3 := hid r3; have H_hup := hid hup; have H_hodd := hid hodd; have H_hrnd := hid hrnd; have H_hx := hid hx; clear q1 q2 q3 f4 b2 hv h0 hadd hcmp hrn r1 r2 r3 hup hodd hrnd hx
     go_wp2_with (fail)
     go_region_held3 (fun (w' : World) => w'.cell? ⟨g, 0, none⟩ = some (.bool na) ∧ w'.cell? ⟨qg, 0, none⟩ = some (wd .u32 x)) (first | exact ⟨k0, kq⟩ | exact ⟨m0, mq⟩ | exact ⟨s0, sq⟩) (first
      | (go_at_call 54; (with_reducible refine (H_hadd.out _ ?c1).mono ?_); (case c1 => first| exact Keep.refl _ _| exact (Keep.refl _ _).drew| exact (Keep.refl _ _).drewN _); rintro e w5 ⟨sv, sl, rfl, s1, s2, s3, s4⟩; have hs5 : Fresh w4 w5 := (by first| exact s4| exact s4.of_drew| exact s4.of_drewN); obtain ⟨as_, cs_, rfl⟩ := s1.form; have m0 := cfr k0 hs5; have H_s1 := hid s1; have H_s2 := hid s2; have H_s3 := hid s3; have H_hs5 := hid hs5; clear s1 s2 s3 s4 hs5; have mq := cfr kq H_hs5.out)
      | (go_at_call 53; (with_reducible refine (H_hcmp.out _ _ _ H_hs5.out H_s1.out H_s2.out H_s3.out).mono ?_); rintro e w6 ⟨rfl, nq6, rfl⟩; have s0 := cfr m0 ((Keep.refl (fun _ => False) w5).drewN nq6); have sq := cfr mq ((Keep.refl (fun _ => False) w5).drewN nq6); have H_f6 := hid (H_hs5.out.drewN nq6); generalize w5.drewN nq6 = w6 at *)
      | (go_at_call 52; (with_reducible refine (H_hrnd.out _).mono ?_); rintro e w7 ⟨rfl, hsame⟩; subst hsame))
     have fc := ftr H_f4.out H_f6.out
     have b2 := rfr H_b2.out H_f6.out
     have q1 := H_q1.out.fresh H_f6.out
     clear H_b2 H_q1 H_f4
     have H_fc := hid fc; have H_b2 := hid b2; have H_q1 := hid q1; clear fc b2 q1
     cases up
     · have hvq : v = sval ql := by have := H_hup.out; simpa using this
       have H_hvq := hid hvq; clear hvq
       go_wp2_with (fail)
       refine (wholeOf_any na _ ql _ ?c9_4).mono ?_
       case c9_4 => first | exact H_q1.out | exact (H_q1.out).drew | exact (H_q1.out).drewN _
       rintro e w9 ⟨rfl, f9⟩
       have f9 : Fresh w7 w9 := by first | exact f9 | exact f9.of_drew | exact f9.of_drewN
       have b3 := rfr H_b2.out f9
       have p0 := rwc b3 0
       have p1 := rwc b3 1
       have p2 := rwc b3 2
       simp at p0 p1 p2
       have z0 : w9.frozen? ⟨g + 1, 0, none⟩ = false := frozen_of_row _ _ _ _ _ b3
       have z1 : w9.frozen? ⟨g + 1, 1, none⟩ = false := frozen_of_row _ _ _ _ _ b3
       have z2 : w9.frozen? ⟨g + 1, 2, none⟩ = false := frozen_of_row _ _ _ _ _ b3
       have x1 := (H_q1.out).fresh f9
       have fw := ftr H_fc.out f9
       obtain ⟨bn, hbn⟩ : ∃ b, b = (na && decide (0 < ql.length)) := ⟨_, rfl⟩
       rw [← hbn]
       clear f9
       have H_b3 := hid b3; have H_x1 := hid x1; have H_fw := hid fw; have H_hbn := hid hbn; clear b3 x1 fw hbn
       go_wp2_with (fail)
       refine bodyPost_ret (results_cell_row rfl _ _ (g + 1) 38 #[.bool bn, .slice (some ⟨qg, 0, none⟩) ql.length cq, .int .i64 (-(p : Int))] (0, 0) _ rfl (rst (rst (rst H_b3.out))) Tryz.underlying38 rfl (by kernel_rfl)) rfl ?_
       have g1 := H_x1.out.off p0 (fun n e => by simp at e)
       exact ⟨_, rfl, ⟨bn, _, ql, rfl, ((H_x1.out.setOff g1).setOff g1).setOff g1, H_q2.out, fun e => by rw [H_hbn.out, e]; simp, by rw [H_hbn.out]; exact sint_sgn H_hna.out H_q2.out H_hca.out (H_hvq.out.symm.trans H_hv.out) (fun h => H_hv.out.symm.trans (H_h0.out h))⟩, H_fw.out.set3 (by have := H_hg.out; omega)⟩
     · have hvq0 : v = sval ql + 1 := by have := H_hup.out; simpa using this
       have H_hvq0 := hid hvq0; clear hvq0
       go_wp2_with (fail)
       refine (one_any _).mono ?_
       rintro e w8 ⟨ov, ol, rfl, o1, o2, o3, f7⟩
       have f7 : Fresh w7 w8 := by first | exact f7 | exact f7.of_drew | exact f7.of_drewN
       obtain ⟨ao, co, rfl⟩ := o1.form
       have hol : ol.length ≤ 1 := o2.s_len_le (by rw [o3]; unfold spow; omega)
       have hadd2 := NatAdd_any _ _ ql ol w8 (H_q1.out.fresh f7) o1 H_q2.out o2 (by omega) (by omega)
       have b2 := rfr H_b2.out f7
       have fc := ftr H_fc.out f7
       have s0 := cfr s0 f7
       clear H_b2 H_fc o1 o2
       have H_hadd2 := hid hadd2; have H_o3 := hid o3; have H_f7 := hid f7; have H_b2 := hid b2; have H_fc := hid fc; have H_hol := hid hol; clear hadd2 o3 f7 b2 fc hol
       go_wp2_with (fail)
       refine H_hadd2.out.mono ?_
       rintro e w10 ⟨tv, tl, rfl, y1, y2, y3, f8⟩
       obtain ⟨at_, ct_, rfl⟩ := y1.form
       have b2 := rfr H_b2.out f8
       have fc := ftr H_fc.out f8
       have hvq : v = sval tl := by rw [y3, H_hvq0.out, H_o3.out]
       have s0 := cfr s0 f8
       clear H_b2 H_fc y3 f8 H_hadd2
       have H_y1 := hid y1; have H_y2 := hid y2; have H_b2 := hid b2; have H_fc := hid fc; have H_hvq := hid hvq; clear y1 y2 b2 fc hvq
       go_wp2_with (fail)
       refine (wholeOf_any na _ tl _ ?c9_5).mono ?_
       case c9_5 => first | exact H_y1.out | exact (H_y1.out).drew | exact (H_y1.out).drewN _
       rintro e w9 ⟨rfl, f9⟩
       have f9 : Fresh w10 w9 := by first | exact f9 | exact f9.of_drew | exact f9.of_drewN
       have b3 := rfr H_b2.out f9
       have p0 := rwc b3 0
       have p1 := rwc b3 1
       have p2 := rwc b3 2
       simp at p0 p1 p2
       have z0 : w9.frozen? ⟨g + 1, 0, none⟩ = false := frozen_of_row _ _ _ _ _ b3
       have z1 : w9.frozen? ⟨g + 1, 1, none⟩ = false := frozen_of_row _ _ _ _ _ b3
       have z2 : w9.frozen? ⟨g + 1, 2, none⟩ = false := frozen_of_row _ _ _ _ _ b3
       have x1 := (H_y1.out).fresh f9
       have fw := ftr H_fc.out f9
       obtain ⟨bn, hbn⟩ : ∃ b, b = (na && decide (0 < tl.length)) := ⟨_, rfl⟩
       rw [← hbn]
       clear f9
       have H_b3 := hid b3; have H_x1 := hid x1; have H_fw := hid fw; have H_hbn := hid hbn; clear b3 x1 fw hbn
       go_wp2_with (fail)
       refine bodyPost_ret (results_cell_row rfl _ _ (g + 1) 38 #[.bool bn, .slice at_ tl.length ct_, .int .i64 (-(p : Int))] (0, 0) _ rfl (rst (rst (rst H_b3.out))) Tryz.underlying38 rfl (by kernel_rfl)) rfl ?_
       have g1 := H_x1.out.off p0 (fun n e => by simp at e)
       exact ⟨_, rfl, ⟨bn, _, tl, rfl, ((H_x1.out.setOff g1).setOff g1).setOff g1, H_y2.out, fun e => by rw [H_hbn.out, e]; simp, by rw [H_hbn.out]; exact sint_sgn H_hna.out H_y2.out H_hca.out (H_hvq.out.symm.trans H_hv.out) (fun h => H_hv.out.symm.trans (H_h0.out h))⟩, H_fw.out.set3 (by have := H_hg.out; omega)⟩

theorem RoundW_neg (way : Int) (ru : Bool → Int → Bool → Bool) (hro : ∀ neg h odd W, Calls Tryz.prog 52 #[.int .i64 way, .bool neg, .int .i64 h, .bool odd] W (fun e w' => e = .returned (.bool (ru neg h odd)) ∧ w' = W))
 (xw : Value) (z : Int) (d p : Nat) (e : Int) (hep : -e = (p : Int)) (he0 : e < 0) (w : World) (hx : SFr w xw z d) (hd : 0 < d) (hz : z.natAbs < spow 300) (hdd : d < spow 300) (hp : p ≤ 1000) :
 Calls Tryz.prog 17 #[xw, .int .i64 e, .int .i64 way] w (RdIRet w (sgnN z (rdW ru (decide (z < 0)) z.natAbs (d * 10 ^ p))) (p : Int)) := by
 obtain ⟨na, va, la, dv, dl, rfl, ha, hna, hca, rfl, hda, hdna, rfl⟩ := hx
 rw [sint_neg hna hca]
 rw [sint_natAbs] at hz ⊢
 have l1 := hna.s_len_le hz
 have l2 := hdna.s_len_le hdd
 have h0 : sval la = 0 → rdW ru na (sval la) (sval dl * 10 ^ p) = 0 := fun h => by rw [h]; exact rdW_zero
 obtain ⟨aa, ca, rfl⟩ := ha.form
 obtain ⟨ad, cd, rfl⟩ := hda.form
 obtain ⟨g, hg⟩ : ∃ g, g = w.heap.size := ⟨_, rfl⟩
 have bx := boxes2 w #[.bool na, .slice aa la.length ca, .slice ad dl.length cd] #[.bool false, .slice none 0 0, .int .i64 0] 30 38 g hg
 have t1 : decide (0 ≤ e) = false := by simp; omega
 have t2 : ¬ 0 ≤ e := by omega
 have tw : IntKind.i64.wrap (p : Int) = (p : Int) := by rw [IntKind.wrap_i64]; omega
 have hp10 := fun W => Pow10_any p W (by omega)
 have H_bx := hid bx; have H_ha := hid ha; have H_hda := hid hda; have H_hna := hid hna; have H_hdna := hid hdna; have H_hca := hid hca; have H_hz := hid hz; have H_hdd := hid hdd; have H_hd := hid hd; have H_hp10 := hid hp10; have H_h0 := hid h0; have H_hro := hid hro; have H_he0 := hid he0; clear bx ha hda hna hdna hca hz hdd hd hp10 h0 hro he0
 go_enter Tryz.func17, Tryz.ntmps17
 go_wp2_with (fail)
 generalize hw1 : (w.alloc _).alloc _ = w1
 rw [← hg]
 obtain ⟨b1, b2, hf⟩ := H_bx.out w1 hw1
 have k0 := rwc b1 0
 have k1 := rwc b1 1
 have k2 := rwc b1 2
 simp at k0 k1 k2
 have H_b1 := hid b1; have H_b2 := hid b2; have H_hf := hid hf; have H_hw1 := hid hw1; have H_hg := hid hg; clear b1 b2 hf hw1 hg
 go_wp2_with (go_quiet (fail))
 refine (H_hp10.out _).mono ?_
 rintro e w2 ⟨pv, pl, rfl, p1, p2, p3, p4⟩
 have f2 : Fresh w1 w2 := by first | exact p4 | exact p4.of_drew | exact p4.of_drewN
 obtain ⟨ap, cp, rfl⟩ := p1.form
 have k0 := cfr k0 f2
 have hpl : pl.length ≤ 300 := p2.s_len_le (by rw [p3]; exact pow_spow (by omega))
 have hmul := NatMul_any _ _ dl pl w2 ((H_hda.out.fresh H_hf.out).fresh f2) p1 (by omega)
 rw [p3] at hmul
 have b2 := rfr H_b2.out f2
 have f2 := ftr H_hf.out f2
 clear p1 p2 p4 k1 k2 H_b2
 have H_p3 := hid p3; have H_f2 := hid f2; have H_hmul := hid hmul; have H_b2 := hid b2; clear p3 f2 hmul b2
 go_wp2_with (fail)
 refine H_hmul.out.mono ?_
 rintro e w3 ⟨nv, el, rfl, n1, n2, n3, n4⟩
 obtain ⟨ae, ce, rfl⟩ := n1.form
 have k0 := cfr k0 n4
 have hlt : sval el < spow 600 := by
  rw [n3]
  have e1 := H_hdd.out
  have e2 : 10 ^ p < spow 300 := pow_spow (by omega)
  have := Nat.mul_lt_mul'' e1 e2
  rwa [← spow_add] at this
 have hel : el.length ≤ 600 := n2.s_len_le hlt
 have hd : 0 < sval el := by rw [n3]; exact Nat.mul_pos H_hd.out (Nat.pow_pos (by omega))
 have f3 := ftr H_f2.out n4
 have hdiv := NatDiv_any _ _ la el w3 (H_ha.out.fresh f3) n1 H_hna.out n2 (by omega) hd
 have b2 := rfr H_b2.out n4
 have hda := n1
 have hdna := n2
 clear n1 n2 n4 H_p3 H_hmul H_b2 H_hda H_hdna H_hd H_hdd hel
 have H_f3 := hid f3; have H_hdiv := hid hdiv; have H_n3 := hid n3; have H_b2 := hid b2; have H_hda := hid hda; have H_hdna := hid hdna; have H_hd := hid hd; have H_hlt := hid hlt; clear f3 hdiv n3 b2 hda hdna hd hlt
 go_wp2_with (fail)
 refine H_hdiv.out.mono ?_
 rintro e w4 ⟨qv, rv, ql, rl, rfl, q1, q2, q3, r1, r2, r3, f4⟩
 obtain ⟨aq, cq, rfl⟩ := q1.form
 obtain ⟨ar, cr, rfl⟩ := r1.form
 have k0 := cfr k0 f4
 have b2 := rfr H_b2.out f4
 have hda := H_hda.out.fresh f4
 have f4 := ftr H_f3.out f4
 clear H_hdiv H_b1 H_b2 H_hda
 have hqn : ql.length ≤ 600 := q2.s_len_le (by
  rw [q3]
  refine Nat.lt_of_le_of_lt (Nat.div_le_self _ _) ?_
  exact Nat.lt_trans H_hz.out (spow_lt (by omega)))
 rw [H_n3.out] at q3 r3
 have hrl : rl.length ≤ 600 := r2.s_len_le (by
  rw [r3, ← H_n3.out]
  exact Nat.lt_trans (Nat.mod_lt _ H_hd.out) H_hlt.out)
 obtain ⟨v, hv⟩ : ∃ v, v = rdW ru na (sval la) (sval dl * 10 ^ p) := ⟨_, rfl⟩
 have h0 := H_h0.out
 rw [← hv] at h0
 clear H_h0
 rcases Nat.eq_zero_or_pos rl.length with hr0 | hr0
 · have hvq : v = sval ql := by
    have hm0 := r3
    rw [List.eq_nil_of_length_eq_zero hr0] at hm0
    rw [hv, q3]
    exact rdW_exact hm0.symm
   rw [hr0]
   clear r1 r2 r3 hr0 hrl hda
   have H_q1 := hid q1; have H_q2 := hid q2; have H_q3 := hid q3; have H_f4 := hid f4; have H_b2 := hid b2; have H_hvq := hid hvq; have H_hv := hid hv; have H_h0 := hid h0; clear q1 q2 q3 f4 b2 hvq hv h0
   go_wp2_with (go_quiet (fail))
   refine (wholeOf_any na _ ql _ ?c9_6).mono ?_
   case c9_6 => first | exact H_q1.out | exact (H_q1.out).drew | exact (H_q1.out).drewN _
   rintro e w9 ⟨rfl, f9⟩
   have f9 : Fresh w4 w9 := by first | exact f9 | exact f9.of_drew | exact f9.of_drewN
   have b3 := rfr H_b2.out f9
   have p0 := rwc b3 0
   have p1 := rwc b3 1
   have p2 := rwc b3 2
   simp at p0 p1 p2
   have z0 : w9.frozen? ⟨g + 1, 0, none⟩ = false := frozen_of_row _ _ _ _ _ b3
   have z1 : w9.frozen? ⟨g + 1, 1, none⟩ = false := frozen_of_row _ _ _ _ _ b3
   have z2 : w9.frozen? ⟨g + 1, 2, none⟩ = false := frozen_of_row _ _ _ _ _ b3
   have x1 := (H_q1.out).fresh f9
   have fw := ftr H_f4.out f9
   obtain ⟨bn, hbn⟩ : ∃ b, b = (na && decide (0 < ql.length)) := ⟨_, rfl⟩
   rw [← hbn]
   clear f9
   have H_b3 := hid b3; have H_x1 := hid x1; have H_fw := hid fw; have H_hbn := hid hbn; clear b3 x1 fw hbn
   go_wp2_with (fail)
   refine bodyPost_ret (results_cell_row rfl _ _ (g + 1) 38 #[.bool bn, .slice aq ql.length cq, .int .i64 (p : Int)] (0, 0) _ rfl (rst (rst (rst H_b3.out))) Tryz.underlying38 rfl (by kernel_rfl)) rfl ?_
   have g1 := H_x1.out.off p0 (fun n e => by simp at e)
   exact ⟨_, rfl, ⟨bn, _, ql, rfl, ((H_x1.out.setOff g1).setOff g1).setOff g1, H_q2.out, fun e => by rw [H_hbn.out, e]; simp, by rw [H_hbn.out]; exact sint_sgn H_hna.out H_q2.out H_hca.out (H_hvq.out.symm.trans H_hv.out) (fun h => H_hv.out.symm.trans (H_h0.out h))⟩, H_fw.out.set3 (by have := H_hg.out; omega)⟩
 · have hr0N : ¬ rl.length = 0 := by omega
   have tr : decide (0 < (rl.length : Int)) = true := by simp; omega
   have hup := rdW_up (ru := ru) (na := na) q3 r3 (by
    intro e
    have := r2.s_pos (by omega)
    omega)
   rw [← hv] at hup
   have hadd : ∀ W, Fresh w4 W → Calls Tryz.prog 54 #[.slice ar rl.length cr, .slice ar rl.length cr] W (SRet W (sval rl + sval rl)) := fun W hW => NatAdd_any _ _ rl rl W (r1.fresh hW) (r1.fresh hW) r2 r2 (by omega) (by omega)
   obtain ⟨rn, hrn⟩ : ∃ rn, rn = rl.length := ⟨_, rfl⟩
   rw [← hrn] at tr hadd hr0N ⊢
   have hrn0 : 0 < rn := by omega
   clear hr0
   have hcmp : ∀ W sv sl, Fresh w4 W → SNat W sv sl → Norm sl → sval sl = sval rl + sval rl → Calls Tryz.prog 53 #[sv, .slice ae el.length ce] W (Quiet W (.int .i64 (cmpN (sval rl + sval rl) (sval dl * 10 ^ p)))) := fun W sv sl hW hs hn hv2 => by
    have := NatCmp_any sv _ sl el W hs (hda.fresh hW) hn H_hdna.out
    rw [hv2, H_n3.out] at this
    exact this
   clear hda
   generalize cmpN (sval rl + sval rl) (sval dl * 10 ^ p) = cz at *
   rcases Nat.eq_zero_or_pos ql.length with hq0 | hq0
   · have hodd : decide (sval ql % 2 = 1) = false := by rw [List.eq_nil_of_length_eq_zero hq0]; rfl
     rw [hodd] at hup
     have hrnd := fun W => H_hro.out na cz false W
     generalize ru na cz false = up at *
     rw [hq0] at q1 ⊢
     have H_q1 := hid q1; have H_q2 := hid q2; have H_q3 := hid q3; have H_f4 := hid f4; have H_b2 := hid b2; have H_hv := hid hv; have H_h0 := hid h0; have H_hadd := hid hadd; have H_hcmp := hid hcmp; have H_hrn := hid hrn; have H_r1 := hid r1; have H_r2 := hid r2; have H_r3 := hid r3; have H_hup := hid hup; have H_hodd := hid hodd; have H_hq0 := hid hq0; have H_hrnd := hid hrnd; clear q1 q2 q3 f4 b2 hv h0 hadd hcmp hrn r1 r2 r3 hup hodd hq0 hrnd
     go_wp2_with (fail)
     refine rgE (S := (fun (w' : World) => w'.cell? ⟨g, 0, none⟩ = some (.bool na))) 24 (by kernel_rfl) (by exact k0) (fun hHeld => ?_)
     refine tkP (i := 0) (v := ?v0_2) rfl (by kernel_rfl) (fun _ _ _ h => h) ⟨by rfl, ?y0_2⟩ (by assumption) ?r0_2
     case y0_2 => (intro w; go_simp; try with_reducible rfl)
     try simp only [Act.put, yA, yB, yD, yE, yF]
     refine tkP (i := 1) (v := ?v1_2) rfl (by kernel_rfl) (fun _ _ _ h => h) ⟨by rfl, ?y1_2⟩ (by assumption) ?r1_2
     case y1_2 => (intro w; go_simp; try with_reducible rfl)
     try simp only [Act.put, yA, yB, yC, yD, yE, yF]
     refine tkP (i := 2) (v := ?v2_2) rfl (by kernel_rfl) (fun _ _ _ h => h) ⟨by rfl, ?y2_2⟩ (by assumption) ?r2_2
     case y2_2 => (intro w; go_simp; try with_reducible rfl)
     try simp only [Act.put, yA, yB, yC, yD, yE, yF]
     refine tkP (i := 3) (v := .bool true) rfl (by kernel_rfl) (fun _ _ _ h => h) ⟨by rfl, ?y3_2⟩ (by assumption) ?r3_2
     case y3_2 => (intro w; go_simp)
     try simp only [Act.put, yA, yB, yC, yD, yE, yF]
     refine tkP (i := 4) (v := ?v4_2) rfl (by kernel_rfl) (fun _ _ _ h => h) ⟨by rfl, ?y4_2⟩ (by assumption) ?r4_2
     case y4_2 => (intro w; go_simp; try with_reducible rfl)
     try simp only [Act.put, yA, yB, yC, yD, yE, yF]
     refine tkP (i := 5) (v := ?v5_2) rfl (by kernel_rfl) (fun _ _ _ h => h) ⟨by rfl, ?y5_2⟩ (by assumption) ?r5_2
     case y5_2 => (intro w; go_simp; try with_reducible rfl)
     try simp only [Act.put, yA, yB, yC, yD, yE, yF]
     refine tkP (i := 6) (v := ?v6_2) rfl (by kernel_rfl) (fun _ _ _ h => h) ⟨by rfl, ?y6_2⟩ (by assumption) ?r6_2
     case y6_2 => (intro w; go_simp; try with_reducible rfl)
     try simp only [Act.put, yA, yB, yC, yD, yE, yF]
     refine tkL (i := 7) (c := 23) (v := ?v7_2) rfl (by kernel_rfl) (fun _ _ _ h => h) ⟨by rfl, ?y7_2⟩ (by assumption) ?r7_2
     case y7_2 => (intro w hSw; go_split_ands; go_simp; try with_reducible rfl)
     try simp only [Act.put, yA, yB, yC, yD, yE, yF]
     refine tkP (i := 8) (v := ?v8_2) rfl (by kernel_rfl) (fun _ _ _ h => h) ⟨by rfl, ?y8_2⟩ (by assumption) ?r8_2
     case y8_2 => (intro w; go_simp; try with_reducible rfl)
     try simp only [Act.put, yA, yB, yC, yD, yE, yF]
     refine tkP (i := 9) (v := ?v9_2) rfl (by kernel_rfl) (fun _ _ _ h => h) ⟨by rfl, ?y9_2⟩ (by assumption) ?r9_2
     case y9_2 => (intro w; go_simp; try with_reducible rfl)
     try simp only [Act.put, yA, yB, yC, yD, yE, yF]
     refine tkP (i := 11) (v := ?v11_2) rfl (by kernel_rfl) (fun _ _ _ h => h) ⟨by rfl, ?y11_2⟩ (by assumption) ?r11_2
     case y11_2 => (intro w; go_simp; try with_reducible rfl)
     try simp only [Act.put, yA, yB, yC, yD, yE, yF]
     refine tkP (i := 13) (v := ?v13_2) rfl (by kernel_rfl) (fun _ _ _ h => h) ⟨by rfl, ?y13_2⟩ (by assumption) ?r13_2
     case y13_2 => (intro w; go_simp; try with_reducible rfl)
     try simp only [Act.put, yA, yB, yC, yD, yE, yF]
     refine tkP (i := 14) (v := ?v14_2) rfl (by kernel_rfl) (fun _ _ _ h => h) ⟨by rfl, ?y14_2⟩ (by assumption) ?r14_2
     case y14_2 => (intro w; go_simp; try with_reducible rfl)
     try simp only [Act.put, yA, yB, yC, yD, yE, yF]
     refine tkP (i := 15) (v := ?v15_2) rfl (by kernel_rfl) (fun _ _ _ h => h) ⟨by rfl, ?y15_2⟩ (by assumption) ?r15_2
     case y15_2 => (intro w; go_simp; try with_reducible rfl)
     try simp only [Act.put, yA, yB, yC, yD, yE, yF]
     refine tkO (i := 10) rfl (by kernel_rfl) (fun K hK => ?_)
     go_simp
     refine (H_hadd.out _ ?c1).mono ?_; (case c1 => first| exact Keep.refl _ _| exact (Keep.refl _ _).drew| exact (Keep.refl _ _).drewN _); rintro e w5 ⟨sv, sl, rfl, s1, s2, s3, s4⟩; have hs5 : Fresh w4 w5 := (by first| exact s4| exact s4.of_drew| exact s4.of_drewN); obtain ⟨as_, cs_, rfl⟩ := s1.form; have m0 := cfr k0 hs5; have H_s1 := hid s1; have H_s2 := hid s2; have H_s3 := hid s3; have H_hs5 := hid hs5; clear s1 s2 s3 s4 hs5
     go_wp2_with (fail)
     have hHeld1 : ((fun (w' : World) => w'.cell? ⟨g, 0, none⟩ = some (.bool na))) _ := m0
     refine hK.out _ _ (fun _ => hHeld1) ?_
     clear hK K
     try simp only [Act.put, yA, yB, yC, yD, yE, yF]
     refine tkO (i := 12) rfl (by kernel_rfl) (fun K hK => ?_)
     go_simp
     refine (H_hcmp.out _ _ _ H_hs5.out H_s1.out H_s2.out H_s3.out).mono ?_; rintro e w6 ⟨rfl, nq6, rfl⟩; have s0 := cfr m0 ((Keep.refl (fun _ => False) w5).drewN nq6); have H_f6 := hid (H_hs5.out.drewN nq6); generalize w5.drewN nq6 = w6 at *
     go_wp2_with (fail)
     have hHeld2 : ((fun (w' : World) => w'.cell? ⟨g, 0, none⟩ = some (.bool na))) _ := s0
     refine hK.out _ _ (fun _ => hHeld2) ?_
     clear hK K
     try simp only [Act.put, yA, yB, yC, yD, yE, yF]
     refine tkP (i := 16) (v := .bool false) rfl (by kernel_rfl) (fun _ _ _ h => h) ⟨by rfl, ?y16_2⟩ (by assumption) ?r16_2
     case y16_2 => (intro w; go_simp)
     try simp only [Act.put, yA, yB, yC, yD, yE, yF]
     refine tkU (i := 17) rfl (by kernel_rfl) (fun _ _ _ h => h) (by rfl) (by assumption) ?_
     try simp only [Act.put, yA, yB, yC, yD, yE, yF]
     refine tkU (i := 18) rfl (by kernel_rfl) (fun _ _ _ h => h) (by rfl) (by assumption) ?_
     try simp only [Act.put, yA, yB, yC, yD, yE, yF]
     refine tkU (i := 19) rfl (by kernel_rfl) (fun _ _ _ h => h) (by rfl) (by assumption) ?_
     try simp only [Act.put, yA, yB, yC, yD, yE, yF]
     refine tkU (i := 20) rfl (by kernel_rfl) (fun _ _ _ h => h) (by rfl) (by assumption) ?_
     try simp only [Act.put, yA, yB, yC, yD, yE, yF]
     refine tkU (i := 21) rfl (by kernel_rfl) (fun _ _ _ h => h) (by rfl) (by assumption) ?_
     try simp only [Act.put, yA, yB, yC, yD, yE, yF]
     refine tkP (i := 22) (v := ?v22_2) rfl (by kernel_rfl) (fun _ _ _ h => h) ⟨by rfl, ?y22_2⟩ (by assumption) ?r22_2
     case y22_2 => (intro w; go_simp; try with_reducible rfl)
     try simp only [Act.put, yA, yB, yC, yD, yE, yF]
     refine tkO (i := 23) rfl (by kernel_rfl) (fun K hK => ?_)
     go_simp
     refine (H_hrnd.out _).mono ?_; rintro e w7 ⟨rfl, hsame⟩; subst hsame
     go_wp2_with (fail)
     have hHeld3 : ((fun (w' : World) => w'.cell? ⟨g, 0, none⟩ = some (.bool na))) _ := s0
     refine hK.out _ _ (fun _ => hHeld3) ?_
     clear hK K
     try simp only [Act.put, yA, yB, yC, yD, yE, yF]
     refine tkO (i := 24) rfl (by kernel_rfl) (fun K hK => ?_)
     go_simp
     refine hK.out _ _ (fun h => Bool.noConfusion (show true = false from h)) ?_
     clear hK K
     try simp only [Act.put, yA, yB, yC, yD, yE, yF]
     refine tkD (by kernel_rfl) ?_ _
     have fc := ftr H_f4.out H_f6.out
     have b2 := rfr H_b2.out H_f6.out
     have q1 := H_q1.out.fresh H_f6.out
     clear H_b2 H_q1 H_f4
     have H_fc := hid fc; have H_b2 := hid b2; have H_q1 := hid q1; clear fc b2 q1
     cases up
     · have hvq : v = sval ql := by have := H_hup.out; simpa using this
       have H_hvq := hid hvq; clear hvq
       go_wp2_with (fail)
       refine (wholeOf_any na _ ql _ ?c9_7).mono ?_
       case c9_7 => first | exact H_q1.out | exact (H_q1.out).drew | exact (H_q1.out).drewN _
       rintro e w9 ⟨rfl, f9⟩
       have f9 : Fresh w7 w9 := by first | exact f9 | exact f9.of_drew | exact f9.of_drewN
       have b3 := rfr H_b2.out f9
       have p0 := rwc b3 0
       have p1 := rwc b3 1
       have p2 := rwc b3 2
       simp at p0 p1 p2
       have z0 : w9.frozen? ⟨g + 1, 0, none⟩ = false := frozen_of_row _ _ _ _ _ b3
       have z1 : w9.frozen? ⟨g + 1, 1, none⟩ = false := frozen_of_row _ _ _ _ _ b3
       have z2 : w9.frozen? ⟨g + 1, 2, none⟩ = false := frozen_of_row _ _ _ _ _ b3
       have x1 := (H_q1.out).fresh f9
       have fw := ftr H_fc.out f9
       obtain ⟨bn, hbn⟩ : ∃ b, b = (na && decide (0 < ql.length)) := ⟨_, rfl⟩
       rw [← hbn]
       clear f9
       have H_b3 := hid b3; have H_x1 := hid x1; have H_fw := hid fw; have H_hbn := hid hbn; clear b3 x1 fw hbn
       go_wp2_with (fail)
       refine bodyPost_ret (results_cell_row rfl _ _ (g + 1) 38 #[.bool bn, .slice aq 0 cq, .int .i64 (p : Int)] (0, 0) _ rfl (rst (rst (rst H_b3.out))) Tryz.underlying38 rfl (by kernel_rfl)) rfl ?_
       have g1 := H_x1.out.off p0 (fun n e => by simp at e)
       exact ⟨_, rfl, ⟨bn, _, ql, rfl, ((H_x1.out.setOff g1).setOff g1).setOff g1, H_q2.out, fun e => by rw [H_hbn.out, e]; simp, by rw [H_hbn.out]; exact sint_sgn H_hna.out H_q2.out H_hca.out (H_hvq.out.symm.trans H_hv.out) (fun h => H_hv.out.symm.trans (H_h0.out h))⟩, H_fw.out.set3 (by have := H_hg.out; omega)⟩
     · have hvq0 : v = sval ql + 1 := by have := H_hup.out; simpa using this
       have H_hvq0 := hid hvq0; clear hvq0
       go_wp2_with (fail)
       refine (one_any _).mono ?_
       rintro e w8 ⟨ov, ol, rfl, o1, o2, o3, f7⟩
       have f7 : Fresh w7 w8 := by first | exact f7 | exact f7.of_drew | exact f7.of_drewN
       obtain ⟨ao, co, rfl⟩ := o1.form
       have hol : ol.length ≤ 1 := o2.s_len_le (by rw [o3]; unfold spow; omega)
       have hadd2 := NatAdd_any _ _ ql ol w8 (H_q1.out.fresh f7) o1 H_q2.out o2 (by omega) (by omega)
       have b2 := rfr H_b2.out f7
       have fc := ftr H_fc.out f7
       have s0 := cfr s0 f7
       clear H_b2 H_fc o1 o2
       have H_hadd2 := hid hadd2; have H_o3 := hid o3; have H_f7 := hid f7; have H_b2 := hid b2; have H_fc := hid fc; have H_hol := hid hol; clear hadd2 o3 f7 b2 fc hol
       go_wp2_with (fail)
       refine H_hadd2.out.mono ?_
       rintro e w10 ⟨tv, tl, rfl, y1, y2, y3, f8⟩
       obtain ⟨at_, ct_, rfl⟩ := y1.form
       have b2 := rfr H_b2.out f8
       have fc := ftr H_fc.out f8
       have hvq : v = sval tl := by rw [y3, H_hvq0.out, H_o3.out]
       have s0 := cfr s0 f8
       clear H_b2 H_fc y3 f8 H_hadd2
       have H_y1 := hid y1; have H_y2 := hid y2; have H_b2 := hid b2; have H_fc := hid fc; have H_hvq := hid hvq; clear y1 y2 b2 fc hvq
       go_wp2_with (fail)
       refine (wholeOf_any na _ tl _ ?c9_8).mono ?_
       case c9_8 => first | exact H_y1.out | exact (H_y1.out).drew | exact (H_y1.out).drewN _
       rintro e w9 ⟨rfl, f9⟩
       have f9 : Fresh w10 w9 := by first | exact f9 | exact f9.of_drew | exact f9.of_drewN
       have b3 := rfr H_b2.out f9
       have p0 := rwc b3 0
       have p1 := rwc b3 1
       have p2 := rwc b3 2
       simp at p0 p1 p2
       have z0 : w9.frozen? ⟨g + 1, 0, none⟩ = false := frozen_of_row _ _ _ _ _ b3
       have z1 : w9.frozen? ⟨g + 1, 1, none⟩ = false := frozen_of_row _ _ _ _ _ b3
       have z2 : w9.frozen? ⟨g + 1, 2, none⟩ = false := frozen_of_row _ _ _ _ _ b3
       have x1 := (H_y1.out).fresh f9
       have fw := ftr H_fc.out f9
       obtain ⟨bn, hbn⟩ : ∃ b, b = (na && decide (0 < tl.length)) := ⟨_, rfl⟩
       rw [← hbn]
       clear f9
       have H_b3 := hid b3; have H_x1 := hid x1; have H_fw := hid fw; have H_hbn := hid hbn; clear b3 x1 fw hbn
       go_wp2_with (fail)
       refine bodyPost_ret (results_cell_row rfl _ _ (g + 1) 38 #[.bool bn, .slice at_ tl.length ct_, .int .i64 (p : Int)] (0, 0) _ rfl (rst (rst (rst H_b3.out))) Tryz.underlying38 rfl (by kernel_rfl)) rfl ?_
       have g1 := H_x1.out.off p0 (fun n e => by simp at e)
       exact ⟨_, rfl, ⟨bn, _, tl, rfl, ((H_x1.out.setOff g1).setOff g1).setOff g1, H_y2.out, fun e => by rw [H_hbn.out, e]; simp, by rw [H_hbn.out]; exact sint_sgn H_hna.out H_y2.out H_hca.out (H_hvq.out.symm.trans H_hv.out) (fun h => H_hv.out.symm.trans (H_h0.out h))⟩, H_fw.out.set3 (by have := H_hg.out; omega)⟩
   · have hq0N : ¬ ql.length = 0 := by omega
     have tq : decide (0 < (ql.length : Int)) = true := by simp; omega
     have hodd : decide (sval ql % 2 = 1) = decide (ql.getD 0 0 % 2 = 1) := by rw [low_odd]
     rw [hodd] at hup
     obtain ⟨qg, rfl, hcq, hgq, hcells⟩ := q1.cells rfl hq0
     have kq := hcells 0 (by omega)
     obtain ⟨x, hx⟩ : ∃ x, x = ql.getD 0 0 := ⟨_, rfl⟩
     rw [← hx] at kq hup
     have hob : ((x : Int).tmod 2 == 1) = decide (x % 2 = 1) := by
      rw [Int.tmod_eq_emod_of_nonneg (by omega)]
      rcases Nat.mod_two_eq_zero_or_one x with h | h
      · have e : (x : Int) % 2 = 0 := by omega
        rw [e, h]; rfl
      · have e : (x : Int) % 2 = 1 := by omega
        rw [e, h]; rfl
     generalize decide (x % 2 = 1) = ob at *
     have hrnd := fun W => H_hro.out na cz ob W
     generalize ru na cz ob = up at *
     clear hcells
     have H_q1 := hid q1; have H_q2 := hid q2; have H_q3 := hid q3; have H_f4 := hid f4; have H_b2 := hid b2; have H_hv := hid hv; have H_h0 := hid h0; have H_hadd := hid hadd; have H_hcmp := hid hcmp; have H_hrn := hid hrn; have H_r1 := hid r1; have H_r2 := hid r2; have H_r3 := hid r3; have H_hup := hid hup; have H_hodd := hid hodd; have H_hrnd := hid hrnd; have H_hx := hid hx; clear q1 q2 q3 f4 b2 hv h0 hadd hcmp hrn r1 r2 r3 hup hodd hrnd hx
     go_wp2_with (fail)
     go_region_held3 (fun (w' : World) => w'.cell? ⟨g, 0, none⟩ = some (.bool na) ∧ w'.cell? ⟨qg, 0, none⟩ = some (wd .u32 x)) (first | exact ⟨k0, kq⟩ | exact ⟨m0, mq⟩ | exact ⟨s0, sq⟩) (first
      | (go_at_call 54; (with_reducible refine (H_hadd.out _ ?c1).mono ?_); (case c1 => first| exact Keep.refl _ _| exact (Keep.refl _ _).drew| exact (Keep.refl _ _).drewN _); rintro e w5 ⟨sv, sl, rfl, s1, s2, s3, s4⟩; have hs5 : Fresh w4 w5 := (by first| exact s4| exact s4.of_drew| exact s4.of_drewN); obtain ⟨as_, cs_, rfl⟩ := s1.form; have m0 := cfr k0 hs5; have H_s1 := hid s1; have H_s2 := hid s2; have H_s3 := hid s3; have H_hs5 := hid hs5; clear s1 s2 s3 s4 hs5; have mq := cfr kq H_hs5.out)
      | (go_at_call 53; (with_reducible refine (H_hcmp.out _ _ _ H_hs5.out H_s1.out H_s2.out H_s3.out).mono ?_); rintro e w6 ⟨rfl, nq6, rfl⟩; have s0 := cfr m0 ((Keep.refl (fun _ => False) w5).drewN nq6); have sq := cfr mq ((Keep.refl (fun _ => False) w5).drewN nq6); have H_f6 := hid (H_hs5.out.drewN nq6); generalize w5.drewN nq6 = w6 at *)
      | (go_at_call 52; (with_reducible refine (H_hrnd.out _).mono ?_); rintro e w7 ⟨rfl, hsame⟩; subst hsame))
     have fc := ftr H_f4.out H_f6.out
     have b2 := rfr H_b2.out H_f6.out
     have q1 := H_q1.out.fresh H_f6.out
     clear H_b2 H_q1 H_f4
     have H_fc := hid fc; have H_b2 := hid b2; have H_q1 := hid q1; clear fc b2 q1
     cases up
     · have hvq : v = sval ql := by have := H_hup.out; simpa using this
       have H_hvq := hid hvq; clear hvq
       go_wp2_with (fail)
       refine (wholeOf_any na _ ql _ ?c9_9).mono ?_
       case c9_9 => first | exact H_q1.out | exact (H_q1.out).drew | exact (H_q1.out).drewN _
       rintro e w9 ⟨rfl, f9⟩
       have f9 : Fresh w7 w9 := by first | exact f9 | exact f9.of_drew | exact f9.of_drewN
       have b3 := rfr H_b2.out f9
       have p0 := rwc b3 0
       have p1 := rwc b3 1
       have p2 := rwc b3 2
       simp at p0 p1 p2
       have z0 : w9.frozen? ⟨g + 1, 0, none⟩ = false := frozen_of_row _ _ _ _ _ b3
       have z1 : w9.frozen? ⟨g + 1, 1, none⟩ = false := frozen_of_row _ _ _ _ _ b3
       have z2 : w9.frozen? ⟨g + 1, 2, none⟩ = false := frozen_of_row _ _ _ _ _ b3
       have x1 := (H_q1.out).fresh f9
       have fw := ftr H_fc.out f9
       obtain ⟨bn, hbn⟩ : ∃ b, b = (na && decide (0 < ql.length)) := ⟨_, rfl⟩
       rw [← hbn]
       clear f9
       have H_b3 := hid b3; have H_x1 := hid x1; have H_fw := hid fw; have H_hbn := hid hbn; clear b3 x1 fw hbn
       go_wp2_with (fail)
       refine bodyPost_ret (results_cell_row rfl _ _ (g + 1) 38 #[.bool bn, .slice (some ⟨qg, 0, none⟩) ql.length cq, .int .i64 (p : Int)] (0, 0) _ rfl (rst (rst (rst H_b3.out))) Tryz.underlying38 rfl (by kernel_rfl)) rfl ?_
       have g1 := H_x1.out.off p0 (fun n e => by simp at e)
       exact ⟨_, rfl, ⟨bn, _, ql, rfl, ((H_x1.out.setOff g1).setOff g1).setOff g1, H_q2.out, fun e => by rw [H_hbn.out, e]; simp, by rw [H_hbn.out]; exact sint_sgn H_hna.out H_q2.out H_hca.out (H_hvq.out.symm.trans H_hv.out) (fun h => H_hv.out.symm.trans (H_h0.out h))⟩, H_fw.out.set3 (by have := H_hg.out; omega)⟩
     · have hvq0 : v = sval ql + 1 := by have := H_hup.out; simpa using this
       have H_hvq0 := hid hvq0; clear hvq0
       go_wp2_with (fail)
       refine (one_any _).mono ?_
       rintro e w8 ⟨ov, ol, rfl, o1, o2, o3, f7⟩
       have f7 : Fresh w7 w8 := by first | exact f7 | exact f7.of_drew | exact f7.of_drewN
       obtain ⟨ao, co, rfl⟩ := o1.form
       have hol : ol.length ≤ 1 := o2.s_len_le (by rw [o3]; unfold spow; omega)
       have hadd2 := NatAdd_any _ _ ql ol w8 (H_q1.out.fresh f7) o1 H_q2.out o2 (by omega) (by omega)
       have b2 := rfr H_b2.out f7
       have fc := ftr H_fc.out f7
       have s0 := cfr s0 f7
       clear H_b2 H_fc o1 o2
       have H_hadd2 := hid hadd2; have H_o3 := hid o3; have H_f7 := hid f7; have H_b2 := hid b2; have H_fc := hid fc; have H_hol := hid hol; clear hadd2 o3 f7 b2 fc hol
       go_wp2_with (fail)
       refine H_hadd2.out.mono ?_
       rintro e w10 ⟨tv, tl, rfl, y1, y2, y3, f8⟩
       obtain ⟨at_, ct_, rfl⟩ := y1.form
       have b2 := rfr H_b2.out f8
       have fc := ftr H_fc.out f8
       have hvq : v = sval tl := by rw [y3, H_hvq0.out, H_o3.out]
       have s0 := cfr s0 f8
       clear H_b2 H_fc y3 f8 H_hadd2
       have H_y1 := hid y1; have H_y2 := hid y2; have H_b2 := hid b2; have H_fc := hid fc; have H_hvq := hid hvq; clear y1 y2 b2 fc hvq
       go_wp2_with (fail)
       refine (wholeOf_any na _ tl _ ?c9_10).mono ?_
       case c9_10 => first | exact H_y1.out | exact (H_y1.out).drew | exact (H_y1.out).drewN _
       rintro e w9 ⟨rfl, f9⟩
       have f9 : Fresh w10 w9 := by first | exact f9 | exact f9.of_drew | exact f9.of_drewN
       have b3 := rfr H_b2.out f9
       have p0 := rwc b3 0
       have p1 := rwc b3 1
       have p2 := rwc b3 2
       simp at p0 p1 p2
       have z0 : w9.frozen? ⟨g + 1, 0, none⟩ = false := frozen_of_row _ _ _ _ _ b3
       have z1 : w9.frozen? ⟨g + 1, 1, none⟩ = false := frozen_of_row _ _ _ _ _ b3
       have z2 : w9.frozen? ⟨g + 1, 2, none⟩ = false := frozen_of_row _ _ _ _ _ b3
       have x1 := (H_y1.out).fresh f9
       have fw := ftr H_fc.out f9
       obtain ⟨bn, hbn⟩ : ∃ b, b = (na && decide (0 < tl.length)) := ⟨_, rfl⟩
       rw [← hbn]
       clear f9
       have H_b3 := hid b3; have H_x1 := hid x1; have H_fw := hid fw; have H_hbn := hid hbn; clear b3 x1 fw hbn
       go_wp2_with (fail)
       refine bodyPost_ret (results_cell_row rfl _ _ (g + 1) 38 #[.bool bn, .slice at_ tl.length ct_, .int .i64 (p : Int)] (0, 0) _ rfl (rst (rst (rst H_b3.out))) Tryz.underlying38 rfl (by kernel_rfl)) rfl ?_
       have g1 := H_x1.out.off p0 (fun n e => by simp at e)
       exact ⟨_, rfl, ⟨bn, _, tl, rfl, ((H_x1.out.setOff g1).setOff g1).setOff g1, H_y2.out, fun e => by rw [H_hbn.out, e]; simp, by rw [H_hbn.out]; exact sint_sgn H_hna.out H_y2.out H_hca.out (H_hvq.out.symm.trans H_hv.out) (fun h => H_hv.out.symm.trans (H_h0.out h))⟩, H_fw.out.set3 (by have := H_hg.out; omega)⟩

end Go.Proofs.YtllencgncinphaaGreatDoor
