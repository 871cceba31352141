/- The contract of the reference's fractions: Inverse. -/
import Derived.Test.YtllencgncinphaaGreatDoorKE11
import Derived.Test.YtllencgncinphaaGreatDoorKE15
import Derived.Test.YtllencgncinphaaGreatDoorKE16
import Derived.Test.YtllencgncinphaaGreatDoorKE18
namespace Go.Proofs.YtllencgncinphaaGreatDoor
open Go.RowKit
open Go.Lib (hid)
set_option maxRecDepth 20000
set_option maxHeartbeats 4000000

theorem FracInverse_any (xa : Value) (za : Int) (da : Nat) (w : World) (ha : SFr w xa za da) :
 Calls Tryz.prog 60 #[xa] w (FRet w (if za < 0 then -(da : Int) else (da : Int)) za.natAbs) := by
 obtain ⟨na, va, la, dva, dla, rfl, ha, hna, hca, rfl, hda, hdna, rfl⟩ := ha
 obtain ⟨aa, ca, rfl⟩ := ha.form
 obtain ⟨ada, cda, rfl⟩ := hda.form
 obtain ⟨g, hg⟩ : ∃ g, g = w.heap.size := ⟨_, rfl⟩
 have bx := boxes2 w #[.bool na, .slice aa la.length ca, .slice ada dla.length cda] #[.bool false, .slice none 0 0, .slice none 0 0] 30 30 g hg
 have hmin : ∀ w1, Fresh w w1 → ∀ W, Fresh w1 W → Calls Tryz.prog 56 #[.bool na, .slice ada dla.length cda] W (fun e w' => e = .returned (swh (na && decide (0 < dla.length)) (.slice ada dla.length cda)) ∧ Fresh W w') := fun w1 hf W hW => wholeOf_any na _ dla W ((hda.fresh hf).fresh hW)
 have hnz : sint (na && decide (0 < dla.length)) dla = (if sint na la < 0 then -(sval dla : Int) else (sval dla : Int)) := by
  rw [sint_canon _ hdna]
  cases na
  · rw [if_neg (by simp [sint])]; rfl
  · have h0 : 0 < sval la := by
     rcases Nat.eq_zero_or_pos (sval la) with h | h
     · have := hca (sval_nil_of hna h); cases this
     · exact h
    rw [if_pos (by simp [sint]; omega)]; rfl
 obtain ⟨zz, hzz⟩ : ∃ z, z = (if sint na la < 0 then -(sval dla : Int) else (sval dla : Int)) := ⟨_, rfl⟩
 rw [← hzz] at hnz ⊢
 clear hzz
 have hab : sval la = (sint na la).natAbs := by rw [sint_natAbs]
 obtain ⟨nb, hnb⟩ : ∃ b, b = (na && decide (0 < dla.length)) := ⟨_, rfl⟩
 rw [← hnb] at hmin hnz
 have H_ha := hid ha; have H_hda := hid hda; have H_bx := hid bx; have H_hna := hid hna; have H_hca := hid hca; have H_hdna := hid hdna; have H_hmin := hid hmin; have H_hnb := hid hnb; have H_hnz := hid hnz; have H_hab := hid hab; clear ha hda bx hna hca hdna hmin hnb hnz hab
 go_enter Tryz.func60, Tryz.ntmps60
 go_wp2_with (fail)
 generalize hw1 : (w.alloc _).alloc _ = w1
 rw [← hg]
 obtain ⟨b1, b2, hf⟩ := H_bx.out w1 hw1
 have k0 := rwc b1 0
 have k1 := rwc b1 1
 have k2 := rwc b1 2
 simp at k0 k1 k2
 have hmin := H_hmin.out w1 hf
 clear H_hmin
 have H_b1 := hid b1; have H_b2 := hid b2; have H_hf := hid hf; have H_hw1 := hid hw1; have H_hg := hid hg; have H_hmin := hid hmin; clear b1 b2 hf hw1 hg hmin
 go_region_held3 (fun (w' : World) => w'.cell? ⟨g, 0, none⟩ = some (.bool na) ∧ w'.cell? ⟨g, 1, none⟩ = some (.slice aa la.length ca) ∧ w'.cell? ⟨g, 2, none⟩ = some (.slice ada dla.length cda)) (first | exact ⟨k0, k1, k2⟩ | exact ⟨m0, m1, m2⟩ | exact ⟨far3 (by omega) m0, far3 (by omega) m1, far3 (by omega) m2⟩) (first
  | (go_at_call 56; (with_reducible refine (H_hmin.out _ ?c1).mono ?_); (case c1 => first | exact Keep.refl _ _ | exact (Keep.refl _ _).drew | exact (Keep.refl _ _).drewN _); rintro e w3 ⟨rfl, r2⟩; have hf3 : Fresh w1 w3 := (by first | exact r2 | exact r2.of_drew | exact r2.of_drewN); have m0 := cfr k0 hf3; have m1 := cfr k1 hf3; have m2 := cfr k2 hf3; have b4 := rfr H_b2.out (hf3); have p0 := rwc b4 0; have p1 := rwc b4 1; have p2 := rwc b4 2; have z0 : w3.frozen? ⟨g + 1, 0, none⟩ = false := frozen_of_row _ _ _ _ _ b4; have z1 : w3.frozen? ⟨g + 1, 1, none⟩ = false := frozen_of_row _ _ _ _ _ b4; have z2 : w3.frozen? ⟨g + 1, 2, none⟩ = false := frozen_of_row _ _ _ _ _ b4; simp at p0 p1 p2; have H_b4 := hid b4; clear b4; have H_hf3 := hid hf3; clear r2 hf3))
 go_wp2
 refine bodyPost_ret (results_cell_row rfl _ _ (g + 1) 30 #[.bool nb, .slice ada dla.length cda, .slice aa la.length ca] (0, 0) _ rfl (rst (rst (rst H_b4.out))) Tryz.underlying30 rfl (by kernel_rfl)) rfl ?_
 have ha3 := (H_ha.out.fresh H_hf.out).fresh H_hf3.out
 have hda3 := (H_hda.out.fresh H_hf.out).fresh H_hf3.out
 have f1 := ha3.off p0 (fun n e => by simp at e)
 have f2 := hda3.off p0 (fun n e => by simp at e)
 exact ⟨_, rfl, ⟨nb, _, dla, _, la, rfl, ((hda3.setOff f2).setOff f2).setOff f2, H_hdna.out, fun h => by rw [H_hnb.out, h]; simp, H_hnz.out, ((ha3.setOff f1).setOff f1).setOff f1, H_hna.out, H_hab.out⟩, (ftr H_hf.out H_hf3.out).set3 (by have := H_hg.out; omega)⟩

theorem rounds_ha (neg : Bool) (z : Int) (odd : Bool) (w : World) : Calls Tryz.prog 52 #[.int .i64 4, .bool neg, .int .i64 z, .bool odd] w (fun e w' => e = .returned (.bool (decide (0 ≤ z))) ∧ w' = w) := by
 go_enter Tryz.func52, Tryz.ntmps52
 go_wp2
 go_ret
 exact ⟨rfl, rfl⟩

theorem DecFracI_any (x : Value) (z m : Int) (w : World) (hx : RdI w x z m) (hz : z.natAbs < spow 900) (hm : -1000 ≤ m ∧ m ≤ 1000) :
 Calls Tryz.prog 18 #[x] w (FRet w (dnum z m) (dden m)) := by
 obtain ⟨nb, v, l, rfl, h1, h2, h3, h4⟩ := hx
 have hl := h2.s_len_le (show sval l < spow 900 by rw [← sint_natAbs nb l, h4]; exact hz)
 exact DecFrac_z nb v l z m w h1 h2 h3 h4 (by omega) (by omega)

theorem FracDiv_any (xa xb : Value) (za zb : Int) (da db : Nat) (w : World) (ha : SFr w xa za da) (hb : SFr w xb zb db) (h1 : za.natAbs < spow 1000) (h2 : zb.natAbs < spow 1000) (h3 : da < spow 1000) (h4 : db < spow 1000) :
 Calls Tryz.prog 22 #[xa, xb] w (FRet w (za * (if zb < 0 then -(db : Int) else (db : Int))) (da * zb.natAbs)) := by
 have hin := fun W (hW : Fresh w W) => FracInverse_any xb zb db W (hb.fresh hW)
 have hml := fun W x (hW : Fresh w W) (hx : SFr W x (if zb < 0 then -(db : Int) else (db : Int)) zb.natAbs) => FracMul_any xa x za _ da _ W (ha.fresh hW) hx h1 (by split <;> simpa using h4) h3 h2
 obtain ⟨N, hN⟩ : ∃ N, za * (if zb < 0 then -(db : Int) else (db : Int)) = N := ⟨_, rfl⟩
 obtain ⟨D, hD⟩ : ∃ D, da * zb.natAbs = D := ⟨_, rfl⟩
 simp only [hN, hD] at hml
 rw [hN, hD]
 clear hN hD h1 h2 h3 h4
 obtain ⟨na, va, la, dva, dla, rfl, xa1, xa2, xa3, xa4, xa5, xa6⟩ := ha
 obtain ⟨nb, vb, lb, dvb, dlb, rfl, xb1, xb2, xb3, xb4, xb5, xb6⟩ := hb
 obtain ⟨aa, ca, rfl⟩ := xa1.form
 obtain ⟨ab, cb, rfl⟩ := xb1.form
 obtain ⟨ac, cc, rfl⟩ := xa5.form
 obtain ⟨ad, cd, rfl⟩ := xb5.form
 clear xa1 xa2 xa3 xa4 xa5 xa6 xb1 xb2 xb3 xb4 xb5 xb6
 generalize la.length = ln1 at *
 generalize lb.length = ln2 at *
 generalize dla.length = ln3 at *
 generalize dlb.length = ln4 at *
 clear la lb dla dlb
 obtain ⟨g, hg⟩ : ∃ g, g = w.heap.size := ⟨_, rfl⟩
 have bx := boxes3 w #[.bool na, .slice aa ln1 ca, .slice ac ln3 cc] #[.bool nb, .slice ab ln2 cb, .slice ad ln4 cd] #[.bool false, .slice none 0 0, .slice none 0 0] 30 30 30 g hg
 have H_hin := hid hin; have H_hml := hid hml; have H_bx := hid bx; clear hin hml bx
 go_enter Tryz.func22, Tryz.ntmps22
 go_wp2_with (fail)
 generalize hw1 : ((w.alloc _).alloc _).alloc _ = w1
 rw [← hg]
 obtain ⟨b1, b2, b3, hf, -⟩ := H_bx.out w1 hw1
 have k0 := rwc b1 0
 have k1 := rwc b1 1
 have k2 := rwc b1 2
 have k3 := rwc b2 0
 have k4 := rwc b2 1
 have k5 := rwc b2 2
 simp at k0 k1 k2 k3 k4 k5
 clear H_bx b1 b2
 have H_b3 := hid b3; have H_hf := hid hf; have H_hw1 := hid hw1; have H_hg := hid hg; clear b3 hf hw1 hg
 go_wp2_with (fail)
 refine rgE (S := (fun (w' : World) => w'.cell? ⟨g, 0, none⟩ = some (.bool na) ∧ w'.cell? ⟨g, 1, none⟩ = some (.slice aa ln1 ca) ∧ w'.cell? ⟨g, 2, none⟩ = some (.slice ac ln3 cc) ∧ w'.cell? ⟨g + 1, 0, none⟩ = some (.bool nb) ∧ w'.cell? ⟨g + 1, 1, none⟩ = some (.slice ab ln2 cb) ∧ w'.cell? ⟨g + 1, 2, none⟩ = some (.slice ad ln4 cd))) 4 (by kernel_rfl) (by exact ⟨k0, k1, k2, k3, k4, k5⟩) (fun hHeld => ?_)
 refine tkL (i := 0) (c := 3) (v := ?v0_1) rfl (by kernel_rfl) (fun _ _ _ h => h) ⟨by rfl, ?y0_1⟩ (by assumption) ?r0_1
 case y0_1 => (intro w hSw; go_split_ands; go_simp; try with_reducible rfl)
 try simp only [Act.put, yA, yB, yD, yE, yF]
 refine tkL (i := 1) (c := 2) (v := ?v1_1) rfl (by kernel_rfl) (fun _ _ _ h => h) ⟨by rfl, ?y1_1⟩ (by assumption) ?r1_1
 case y1_1 => (intro w hSw; go_split_ands; go_simp; try with_reducible rfl)
 try simp only [Act.put, yA, yB, yC, yD, yE, yF]
 refine tkO (i := 2) rfl (by kernel_rfl) (fun K hK => ?_)
 go_simp
 refine (H_hin.out _ (H_hf.out.drew)).mono ?_; rintro e w2 ⟨x, rfl, hx, r⟩; have y := r.of_drew; have m0 := cfr k0 y; have m1 := cfr k1 y; have m2 := cfr k2 y; have m3 := cfr k3 y; have m4 := cfr k4 y; have m5 := cfr k5 y; have f2 := ftr H_hf.out y; have H_f2 := hid f2; have H_y := hid y; have H_hx := hid hx; clear y r f2 hx
 go_wp2_with (fail)
 have hHeld1 : ((fun (w' : World) => w'.cell? ⟨g, 0, none⟩ = some (.bool na) ∧ w'.cell? ⟨g, 1, none⟩ = some (.slice aa ln1 ca) ∧ w'.cell? ⟨g, 2, none⟩ = some (.slice ac ln3 cc) ∧ w'.cell? ⟨g + 1, 0, none⟩ = some (.bool nb) ∧ w'.cell? ⟨g + 1, 1, none⟩ = some (.slice ab ln2 cb) ∧ w'.cell? ⟨g + 1, 2, none⟩ = some (.slice ad ln4 cd))) _ := ⟨m0, m1, m2, m3, m4, m5⟩
 refine hK.out _ _ (fun _ => hHeld1) ?_
 clear hK K
 try simp only [Act.put, yA, yB, yC, yD, yE, yF]
 refine tkO (i := 3) rfl (by kernel_rfl) (fun K hK => ?_)
 go_simp
 refine (H_hml.out _ _ H_f2.out H_hx.out).mono ?_; rintro e w3 ⟨x3, rfl, hx3, y3⟩; have n0 := cfr m0 y3; have n1 := cfr m1 y3; have n2 := cfr m2 y3; have n3 := cfr m3 y3; have n4 := cfr m4 y3; have n5 := cfr m5 y3; have d3 := rfr (rfr H_b3.out H_y.out) y3; obtain ⟨ne, ve, le, de, dle, rfl, xe1, xe2, xe3, xe4, xe5, xe6⟩ := hx3; obtain ⟨ae, ce, rfl⟩ := xe1.form; obtain ⟨af, cf, rfl⟩ := xe5.form; have hsa := (⟨ne, _, le, _, dle, rfl, xe1, xe2, xe3, xe4, xe5, xe6⟩ : SFr w3 _ N D); clear xe1 xe2 xe3 xe4 xe5 xe6; generalize le.length = ln5 at *; generalize dle.length = ln6 at *; clear le dle; have p0 := rwc d3 0; have p1 := rwc d3 1; have p2 := rwc d3 2; simp at p0 p1 p2; have s0 : w3.frozen? ⟨g + 1 + 1, 0, none⟩ = false := frozen_of_row _ _ _ _ _ d3; have s1 : w3.frozen? ⟨g + 1 + 1, 1, none⟩ = false := frozen_of_row _ _ _ _ _ d3; have s2 : w3.frozen? ⟨g + 1 + 1, 2, none⟩ = false := frozen_of_row _ _ _ _ _ d3; have H_d3 := hid d3; have f3 := ftr H_f2.out y3; have H_f3 := hid f3; have H_sa := hid hsa; clear y3 f3 d3 hsa
 go_wp2_with (fail)
 have hHeld2 : ((fun (w' : World) => w'.cell? ⟨g, 0, none⟩ = some (.bool na) ∧ w'.cell? ⟨g, 1, none⟩ = some (.slice aa ln1 ca) ∧ w'.cell? ⟨g, 2, none⟩ = some (.slice ac ln3 cc) ∧ w'.cell? ⟨g + 1, 0, none⟩ = some (.bool nb) ∧ w'.cell? ⟨g + 1, 1, none⟩ = some (.slice ab ln2 cb) ∧ w'.cell? ⟨g + 1, 2, none⟩ = some (.slice ad ln4 cd))) _ := ⟨n0, n1, n2, n3, n4, n5⟩
 refine hK.out _ _ (fun _ => hHeld2) ?_
 clear hK K
 try simp only [Act.put, yA, yB, yC, yD, yE, yF]
 refine tkO (i := 4) rfl (by kernel_rfl) (fun K hK => ?_)
 go_simp
 refine hK.out _ _ (fun h => Bool.noConfusion (show true = false from h)) ?_
 clear hK K
 try simp only [Act.put, yA, yB, yC, yD, yE, yF]
 refine tkD (by kernel_rfl) ?_ _
 go_wp2_with (fail)
 have hsa := H_sa.out
 have p0' := p0
 have hs3 := SFr.set3 hsa p0' (by intro n; simp [wd]) (.bool ne) (.slice ae ln5 ce) (.slice af ln6 cf)
 have hgw := H_hg.out
 refine bodyPost_ret (results_cell_row rfl _ _ (g + 1 + 1) 30 #[.bool ne, .slice ae ln5 ce, .slice af ln6 cf] (0, 0) _ rfl (rst (rst (rst H_d3.out))) Tryz.underlying30 rfl (by kernel_rfl)) rfl ?_
 exact ⟨_, rfl, hs3, Fresh.set3 H_f3.out (by omega)⟩

theorem dnum_lt {z e : Int} {p : Nat} (h : z.natAbs < 10 ^ p) (he : e ≤ 60) : (dnum z e).natAbs < 10 ^ (p + 60) := by
 unfold dnum; split
 · rw [Int.natAbs_mul, Int.natAbs_natCast, Nat.pow_add]
   exact Nat.mul_lt_mul_of_lt_of_le h (Nat.pow_le_pow_right (by omega) (by omega)) (Nat.pow_pos (by omega))
 · exact Nat.lt_of_lt_of_le h (Nat.pow_le_pow_right (by omega) (by omega))

theorem dden_le {e : Int} (he : -60 ≤ e) : dden e ≤ 10 ^ 60 := by
 unfold dden; split
 · decide
 · exact Nat.pow_le_pow_right (by omega) (by omega)

theorem spow_of_ten {n p k : Nat} (h : n < 10 ^ p) (hp : p ≤ 9 * k) : n < spow k := by
 rw [spow_ten]; exact Nat.lt_of_lt_of_le h (Nat.pow_le_pow_right (by omega) hp)

theorem dnum_abs (z e : Int) : (dnum z e).natAbs = z.natAbs * 10 ^ e.toNat := by
 unfold dnum
 split
 · rw [Int.natAbs_mul, Int.natAbs_natCast]
 · rw [show e.toNat = 0 by omega, Nat.pow_zero, Nat.mul_one]

theorem dden_eq (e : Int) : dden e = 10 ^ (-e).toNat := by
 unfold dden
 split
 · rw [show (-e).toNat = 0 by omega]
 · rfl

theorem dnum_neg_iff (z e : Int) : dnum z e < 0 ↔ z < 0 := by
 unfold dnum
 split
 · have hp : (0 : Int) < ((10 ^ e.toNat : Nat) : Int) := Int.natCast_pos.2 (Nat.pow_pos (by omega))
   generalize ((10 ^ e.toNat : Nat) : Int) = K at *
   constructor
   · intro h
     rcases Int.lt_or_le z 0 with h' | h'
     · exact h'
     · exact absurd (Int.mul_nonneg h' (Int.le_of_lt hp)) (by omega)
   · intro h
     exact Int.mul_neg_of_neg_of_pos h hp
 · exact Iff.rfl

theorem rdW_scale {ru : Bool → Int → Bool → Bool} {neg : Bool} (a b c : Nat) (hc : 0 < c) : rdW ru neg (a * c) (b * c) = rdW ru neg a b := by
 unfold rdW
 rw [Nat.mul_div_mul_right _ _ hc, Nat.mul_mod_mul_right]
 have h1 : (a % b * c ≠ 0) ↔ a % b ≠ 0 := by
  constructor
  · intro h h'; rw [h', Nat.zero_mul] at h; exact h rfl
  · intro h h'
    rcases Nat.mul_eq_zero.1 h' with h'' | h''
    · exact h h''
    · omega
 have h2 : cmpN (a % b * c + a % b * c) (b * c) = cmpN (a % b + a % b) b := by
  rw [← Nat.add_mul]
  rcases Nat.lt_trichotomy (a % b + a % b) b with h | h | h
  · rw [cmpN_lt h, cmpN_lt (Nat.mul_lt_mul_of_pos_right h hc)]
  · rw [h, cmpN_eq, cmpN_eq]
  · rw [cmpN_gt h, cmpN_gt (Nat.mul_lt_mul_of_pos_right h hc)]
 simp only [h1, h2]

def qA (z e : Int) : Int := z * ((10 ^ e.toNat : Nat) : Int)
def qB (z e : Int) : Int := z * ((10 ^ (-e).toNat : Nat) : Int)

theorem qA_abs (z e : Int) : (qA z e).natAbs = z.natAbs * 10 ^ e.toNat := by unfold qA; rw [Int.natAbs_mul, Int.natAbs_natCast]
theorem qB_abs (z e : Int) : (qB z e).natAbs = z.natAbs * 10 ^ (-e).toNat := by unfold qB; rw [Int.natAbs_mul, Int.natAbs_natCast]

def qN (z1 e1 z2 e2 : Int) : Int := dnum z1 e1 * (if dnum z2 e2 < 0 then -(dden e2 : Int) else (dden e2 : Int))

theorem qN_abs (z1 e1 z2 e2 : Int) : (qN z1 e1 z2 e2).natAbs = z1.natAbs * 10 ^ (e1.toNat + (-e2).toNat) := by
 unfold qN
 rw [Int.natAbs_mul, dnum_abs]
 have : (if dnum z2 e2 < 0 then -(dden e2 : Int) else (dden e2 : Int)).natAbs = 10 ^ (-e2).toNat := by
  rw [← dden_eq]; split <;> omega
 rw [this, Nat.mul_assoc, ← Nat.pow_add]

theorem qN_neg {z1 e1 z2 e2 : Int} (h : z1 ≠ 0) : qN z1 e1 z2 e2 < 0 ↔ (z1 < 0 ↔ ¬ z2 < 0) := by
 unfold qN
 have hd : (0 : Int) < (dden e2 : Int) := by rw [dden_eq]; exact Int.natCast_pos.2 (Nat.pow_pos (by omega))
 have h1 := dnum_neg_iff z1 e1
 have h2 := dnum_neg_iff z2 e2
 have h0 : dnum z1 e1 ≠ 0 := by
  intro e
  have := dnum_abs z1 e1
  rw [e] at this
  rcases Nat.mul_eq_zero.1 this.symm with h' | h'
  · omega
  · exact absurd h' (Nat.pos_iff_ne_zero.1 (Nat.pow_pos (by omega)))
 generalize dnum z1 e1 = N at *
 generalize dnum z2 e2 = M at *
 generalize (dden e2 : Int) = d at *
 by_cases hM : M < 0
 · rw [if_pos hM]
   rcases Int.lt_or_gt_of_ne h0 with hN | hN
   · have := Int.mul_pos_of_neg_of_neg hN (show -d < 0 by omega)
     constructor
     · intro; omega
     · intro hh; exact absurd (h2.1 hM) (hh.1 (h1.1 hN))
   · have := Int.mul_neg_of_pos_of_neg hN (show -d < 0 by omega)
     constructor
     · intro _; constructor
       · intro hz; have := h1.2 hz; omega
       · intro hz; exact absurd (h2.1 hM) hz
     · intro; exact this
 · rw [if_neg hM]
   rcases Int.lt_or_gt_of_ne h0 with hN | hN
   · have := Int.mul_neg_of_neg_of_pos hN hd
     constructor
     · intro _; constructor
       · intro _ hz; exact hM (h2.2 hz)
       · intro _; exact h1.1 hN
     · intro; exact this
   · have := Int.mul_pos hN hd
     constructor
     · intro; omega
     · intro hh; have := hh.2 (fun hz => hM (h2.2 hz)); have := h1.2 this; omega

theorem rdq_pos {ru : Bool → Int → Bool → Bool} {neg : Bool} (z1 e1 z2 e2 : Int) (p : Nat) :
 rdW ru neg ((qN z1 e1 z2 e2).natAbs * 10 ^ p) (dden e1 * (dnum z2 e2).natAbs) = rdW ru neg (qA z1 (e1 - e2 + (p : Int))).natAbs (qB z2 (e1 - e2 + (p : Int))).natAbs := by
 rw [qN_abs, qA_abs, qB_abs, dnum_abs, dden_eq, Nat.mul_assoc, ← Nat.pow_add, Nat.mul_comm (10 ^ (-e1).toNat), Nat.mul_assoc, ← Nat.pow_add]
 by_cases h : 0 ≤ e1 - e2 + (p : Int)
 · rw [show e1.toNat + (-e2).toNat + p = (e1 - e2 + (p : Int)).toNat + (e2.toNat + (-e1).toNat) by omega, show (-(e1 - e2 + (p : Int))).toNat = 0 by omega, Nat.pow_add, ← Nat.mul_assoc, Nat.pow_zero, Nat.mul_one]
   exact rdW_scale _ _ _ (Nat.pow_pos (by omega))
 · rw [show e2.toNat + (-e1).toNat = (-(e1 - e2 + (p : Int))).toNat + (e1.toNat + (-e2).toNat + p) by omega, show (e1 - e2 + (p : Int)).toNat = 0 by omega, Nat.pow_add 10 (-(e1 - e2 + (p : Int))).toNat, ← Nat.mul_assoc, Nat.pow_zero, Nat.mul_one]
   exact rdW_scale _ _ _ (Nat.pow_pos (by omega))

theorem rdq_neg {ru : Bool → Int → Bool → Bool} {neg : Bool} (z1 e1 z2 e2 : Int) (p : Nat) :
 rdW ru neg (qN z1 e1 z2 e2).natAbs (dden e1 * (dnum z2 e2).natAbs * 10 ^ p) = rdW ru neg (qA z1 (e1 - e2 - (p : Int))).natAbs (qB z2 (e1 - e2 - (p : Int))).natAbs := by
 rw [qN_abs, qA_abs, qB_abs, dnum_abs, dden_eq, Nat.mul_comm (10 ^ (-e1).toNat), Nat.mul_assoc, Nat.mul_assoc, ← Nat.pow_add, ← Nat.pow_add]
 by_cases h : 0 ≤ e1 - e2 - (p : Int)
 · rw [show e1.toNat + (-e2).toNat = (e1 - e2 - (p : Int)).toNat + (e2.toNat + ((-e1).toNat + p)) by omega, show (-(e1 - e2 - (p : Int))).toNat = 0 by omega, Nat.pow_add 10 (e1 - e2 - (p : Int)).toNat, ← Nat.mul_assoc, Nat.pow_zero, Nat.mul_one]
   exact rdW_scale _ _ _ (Nat.pow_pos (by omega))
 · rw [show e2.toNat + ((-e1).toNat + p) = (-(e1 - e2 - (p : Int))).toNat + (e1.toNat + (-e2).toNat) by omega, show (e1 - e2 - (p : Int)).toNat = 0 by omega, Nat.pow_add 10 (-(e1 - e2 - (p : Int))).toNat, ← Nat.mul_assoc, Nat.pow_zero, Nat.mul_one]
   exact rdW_scale _ _ _ (Nat.pow_pos (by omega))

theorem qA_neg {z e : Int} : qA z e < 0 ↔ z < 0 := by
 have hp : (0 : Int) < ((10 ^ e.toNat : Nat) : Int) := Int.natCast_pos.2 (Nat.pow_pos (by omega))
 unfold qA
 generalize ((10 ^ e.toNat : Nat) : Int) = K at *
 constructor
 · intro h
   rcases Int.lt_or_le z 0 with h' | h'
   · exact h'
   · exact absurd (Int.mul_nonneg h' (Int.le_of_lt hp)) (by omega)
 · intro h; exact Int.mul_neg_of_neg_of_pos h hp

theorem qB_neg {z e : Int} : qB z e < 0 ↔ z < 0 := by
 have := qA_neg (z := z) (e := -e)
 exact this

theorem tdiv_sgn2 {a b : Int} {N : Int} (h : a ≠ 0 → (N < 0 ↔ (a < 0 ↔ ¬ b < 0))) : sgnN N (a.natAbs / b.natAbs) = a.tdiv b := by
 by_cases h0 : a = 0
 · subst h0
   rw [Int.natAbs_zero, Nat.zero_div, Int.zero_tdiv]
   unfold sgnN; split <;> rfl
 · have hN := h h0
   unfold sgnN
   by_cases ha : a < 0
   · obtain ⟨m, hm⟩ : ∃ m : Nat, a = -(m : Int) := ⟨a.natAbs, by omega⟩
     by_cases hb : b < 0
     · obtain ⟨k, hk⟩ : ∃ k : Nat, b = -(k : Int) := ⟨b.natAbs, by omega⟩
       rw [if_neg (fun hh => (hN.1 hh).1 ha hb), hm, hk, Int.neg_tdiv, Int.tdiv_neg, Int.neg_neg, Int.natAbs_neg, Int.natAbs_neg, Int.natAbs_natCast, Int.natAbs_natCast]
       rfl
     · obtain ⟨k, hk⟩ : ∃ k : Nat, b = (k : Int) := ⟨b.natAbs, by omega⟩
       rw [if_pos (hN.2 ⟨fun _ => hb, fun _ => ha⟩), hm, hk, Int.neg_tdiv, Int.natAbs_neg, Int.natAbs_natCast, Int.natAbs_natCast]
       rfl
   · obtain ⟨m, hm⟩ : ∃ m : Nat, a = (m : Int) := ⟨a.natAbs, by omega⟩
     by_cases hb : b < 0
     · obtain ⟨k, hk⟩ : ∃ k : Nat, b = -(k : Int) := ⟨b.natAbs, by omega⟩
       rw [if_pos (hN.2 ⟨fun h' => absurd h' ha, fun h' => absurd hb h'⟩), hm, hk, Int.tdiv_neg, Int.natAbs_neg, Int.natAbs_natCast, Int.natAbs_natCast]
       rfl
     · obtain ⟨k, hk⟩ : ∃ k : Nat, b = (k : Int) := ⟨b.natAbs, by omega⟩
       rw [if_neg (fun hh => ha ((hN.1 hh).2 hb)), hm, hk, Int.natAbs_natCast, Int.natAbs_natCast]
       rfl

theorem qA_zero {z e : Int} (h : qA z e ≠ 0) : z ≠ 0 := fun e' => h (by rw [e']; unfold qA; exact Int.zero_mul _)

theorem quo_tr (z1 e1 z2 e2 e : Int) : sgnN (qN z1 e1 z2 e2) ((qA z1 e).natAbs / (qB z2 e).natAbs) = (qA z1 e).tdiv (qB z2 e) :=
 tdiv_sgn2 (fun h => by rw [qN_neg (qA_zero h), qA_neg, qB_neg])

theorem rdW_ha (neg : Bool) {a b : Nat} (hb : 0 < b) : rdW (fun _ h _ => decide (0 ≤ h)) neg a b = if a % b + a % b < b then a / b else a / b + 1 := by
 unfold rdW
 by_cases h : a % b + a % b < b
 · rw [if_pos h, cmpN_lt h, if_neg (fun hh => absurd (of_decide_eq_true hh.2) (by decide))]
   rfl
 · rw [if_neg h]
   have h0 : a % b ≠ 0 := by omega
   have h2 : (0 : Int) ≤ cmpN (a % b + a % b) b := by
    rcases Nat.lt_trichotomy (a % b + a % b) b with k | k | k
    · exact absurd k h
    · rw [k, cmpN_eq]; decide
    · rw [cmpN_gt k]; decide
   rw [if_pos ⟨h0, decide_eq_true h2⟩]

theorem tmod_sgn (z : Int) (k : Nat) : z.tmod (k : Int) = sgnN z (z.natAbs % k) := by
 unfold sgnN
 by_cases h : z < 0
 · rw [if_pos h]
   obtain ⟨m, hm⟩ : ∃ m : Nat, z = -(m : Int) := ⟨z.natAbs, by omega⟩
   subst hm
   rw [Int.neg_tmod, Int.natAbs_neg, Int.natAbs_natCast]
   rfl
 · rw [if_neg h]
   obtain ⟨m, hm⟩ : ∃ m : Nat, z = (m : Int) := ⟨z.natAbs, by omega⟩
   subst hm
   rw [Int.natAbs_natCast]
   rfl

theorem tmod_abs (a b : Int) : (a.tmod b).natAbs = a.natAbs % b.natAbs := by
 have h1 : a.tmod b = a.tmod (b.natAbs : Int) := by
  rcases Int.natAbs_eq b with h | h
  · rw [← h]
  · have e : a.tmod b = a.tmod (-(b.natAbs : Int)) := by rw [← h]
    rw [e, Int.tmod_neg]
 rw [h1, tmod_sgn, sgnN_abs]

theorem sgnN_succ (z : Int) (n : Nat) : sgnN z (n + 1) = sgnN z n + (if z < 0 then -1 else 1) := by
 unfold sgnN
 split <;> omega

def drZ (z1 z2 A B : Int) : Int := if (A.tmod B).natAbs + (A.tmod B).natAbs < B.natAbs then A.tdiv B else if z1 < 0 ↔ ¬ z2 < 0 then A.tdiv B - 1 else A.tdiv B + 1

theorem dr_law {z1 e1 z2 e2 e : Int} {neg : Bool} (hB : qB z2 e ≠ 0) : sgnN (qN z1 e1 z2 e2) (rdW (fun _ h _ => decide (0 ≤ h)) neg (qA z1 e).natAbs (qB z2 e).natAbs) = drZ z1 z2 (qA z1 e) (qB z2 e) := by
 rw [rdW_ha neg (by omega)]
 unfold drZ
 rw [tmod_abs]
 by_cases h : (qA z1 e).natAbs % (qB z2 e).natAbs + (qA z1 e).natAbs % (qB z2 e).natAbs < (qB z2 e).natAbs
 · rw [if_pos h, if_pos h]; exact quo_tr _ _ _ _ _
 · rw [if_neg h, if_neg h, sgnN_succ, quo_tr]
   have hz : qA z1 e ≠ 0 := by
    intro e0
    rw [e0, Int.natAbs_zero, Nat.zero_mod] at h
    omega
   have h1 := qA_zero hz
   have hN := qN_neg (e1 := e1) (z2 := z2) (e2 := e2) h1
   by_cases hh : z1 < 0 ↔ ¬ z2 < 0
   · rw [if_pos (hN.2 hh), if_pos hh]; omega
   · rw [if_neg (fun h' => hh (hN.1 h')), if_neg hh]

end Go.Proofs.YtllencgncinphaaGreatDoor
