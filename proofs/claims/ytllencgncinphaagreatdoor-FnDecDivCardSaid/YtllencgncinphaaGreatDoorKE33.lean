/- Int.QuoRem of signed integers, by up to 39 words. Printed by gen_ir.py. -/
import Derived.Test.YtllencgncinphaaGreatDoorKE31
import Derived.Test.YtllencgncinphaaGreatDoorKE32
namespace Go.Proofs.YtllencgncinphaaGreatDoor
open Go.RowKit
open Go.Lib (hid)
set_option maxRecDepth 20000
set_option maxHeartbeats 8000000

theorem ival_rem {n m : Bool} {l k j : List Nat} (h : val j = val l % val k) : ival n j = (ival n l).tmod (ival m k) := by
 have e : ((val l % val k : Nat) : Int) = ((val l : Int)).tmod (val k : Int) := Int.ofNat_tmod ..
 cases n <;> cases m <;> simp [ival, h, Int.neg_tmod, Int.tmod_neg, e]

theorem ival_rem_zero {n m : Bool} {l k : List Nat} (h : val l % val k = 0) : (ival n l).tmod (ival m k) = ival false [] := by
 have := ival_rem (n := n) (m := m) (l := l) (k := k) (j := []) h.symm
 rw [← this]
 cases n <;> rfl

def QRZ (w : World) (bz br : Nat) (vz vr : Value) (q r : Int) (w' : World) : Prop :=
 ∃ v u, ZI w' bz v q ∧ ZI w' br u r ∧ Keep (fun k => k = bz ∨ k = br ∨ vz.ownBlock = some k ∨ vr.ownBlock = some k) w w' ∧
  (∀ k, v.ownBlock = some k → vz.ownBlock = some k ∨ w.heap.size ≤ k) ∧ (∀ k, u.ownBlock = some k → vr.ownBlock = some k ∨ w.heap.size ≤ k) ∧ (∀ k, v.ownBlock = some k → u.ownBlock ≠ some k)

theorem QRZ.drew {w w' : World} {bz br : Nat} {vz vr : Value} {q r : Int} (h : QRZ w bz br vz vr q r w') : QRZ w bz br vz vr q r w'.drew := by
 obtain ⟨v, u, h1, h2, h3, h4, h5, h6⟩ := h
 exact ⟨v, u, h1.fresh ((Keep.refl _ _).drew), h2.fresh ((Keep.refl _ _).drew), h3.drew, h4, h5, h6⟩

theorem Int_QuoRem (bz bx bY br : Nat) (negz negx negy negr : Bool) (vz vx vy vr : Value) (lz lx ly lr0 : List Nat) (w : World) (hG : Glob w) (hlx : lx.length ≤ 1000) (hly : ly.length ≤ 39) (hly0 : 0 < ly.length)
 (d1 : bz ≠ br) (d2 : bx ≠ bz) (d3 : bx ≠ br) (d4 : bY ≠ bz) (d5 : bY ≠ br)
 (hz : IntIs w bz 0 negz vz lz) (hx : IntIs w bx 0 negx vx lx) (hy : IntIs w bY 0 negy vy ly) (hr : IntIs w br 0 negr vr lr0) (hs : Sep vz vx) (ha : ∀ k, vz.ownBlock = some k → vr.ownBlock ≠ some k)
 (hax : ∀ k, vr.ownBlock = some k → vx.ownBlock ≠ some k) (hay : ∀ k, vr.ownBlock = some k → vy.ownBlock ≠ some k) :
 Calls Tryz.prog 130 #[.pointer (some ⟨bz, 0, none⟩), .pointer (some ⟨bx, 0, none⟩), .pointer (some ⟨bY, 0, none⟩), .pointer (some ⟨br, 0, none⟩)] w
  (fun e w' => e = .returned (.tuple #[.pointer (some ⟨bz, 0, none⟩), .pointer (some ⟨br, 0, none⟩)]) ∧ QRZ w bz br vz vr ((ival negx lx).tdiv (ival negy ly)) ((ival negx lx).tmod (ival negy ly)) w') := by
 have hdiv : Calls Tryz.prog 149 #[vz, .pointer none, vr, vx, vy] w.drew (QRRet w.drew vz vr (val lx) (val ly)) :=
  div_gen vz vr vx vy lz lr0 lx ly _ (hG.fresh (Keep.refl _ _).drew) hly0 hly hlx hz.nat.drew hr.nat.drew hx.nat.drew hx.norm hy.nat.drew hy.norm hs ha hax hay
 have nz : ¬ (vz.ownBlock = some bz ∨ vr.ownBlock = some bz) := fun e => e.elim (fun e => IntIs.ne hz.str hz.nat e rfl) (fun e => IntIs.ne hz.str hr.nat e rfl)
 have nx : ¬ (vz.ownBlock = some bx ∨ vr.ownBlock = some bx) := fun e => e.elim (fun e => IntIs.ne hx.str hz.nat e rfl) (fun e => IntIs.ne hx.str hr.nat e rfl)
 have ny : ¬ (vz.ownBlock = some bY ∨ vr.ownBlock = some bY) := fun e => e.elim (fun e => IntIs.ne hy.str hz.nat e rfl) (fun e => IntIs.ne hy.str hr.nat e rfl)
 have nr : ¬ (vz.ownBlock = some br ∨ vr.ownBlock = some br) := fun e => e.elim (fun e => IntIs.ne hr.str hz.nat e rfl) (fun e => IntIs.ne hr.str hr.nat e rfl)
 have cz1 : w.cell? ⟨bz, 1, none⟩ = some vz := hz.str.c1
 have cx1 : w.cell? ⟨bx, 1, none⟩ = some vx := hx.str.c1
 have cy1 : w.cell? ⟨bY, 1, none⟩ = some vy := hy.str.c1
 have cr1 : w.cell? ⟨br, 1, none⟩ = some vr := hr.str.c1
 clear hG hlx hly hly0 hs ha hax hay
 have e1 : ¬ bz = br := d1
 have e2 : ¬ br = bz := fun e => d1 e.symm
 have H_hz := hid hz; have H_hx := hid hx; have H_hy := hid hy; have H_hr := hid hr; have H_hdiv := hid hdiv; have H_nz := hid nz; have H_nx := hid nx; have H_ny := hid ny; have H_nr := hid nr; have H_d1 := hid d1; have H_d2 := hid d2; have H_d3 := hid d3; have H_d4 := hid d4; have H_d5 := hid d5; clear hz hx hy hr hdiv nz nx ny nr d1 d2 d3 d4 d5
 go_enter Tryz.func130, Tryz.ntmps130
 go_wp2_with (fail)
 refine rgE (S := (fun (w' : World) => w'.cell? ⟨bz, 1, none⟩ = some vz ∧ w'.cell? ⟨br, 1, none⟩ = some vr ∧ w'.cell? ⟨bx, 1, none⟩ = some vx ∧ w'.cell? ⟨bY, 1, none⟩ = some vy)) 24 (by kernel_rfl) (by exact ⟨cz1, cr1, cx1, cy1⟩) (fun hHeld => ?_)
 refine tkP (i := 0) (v := ?v0_1) rfl (by kernel_rfl) (fun _ _ _ h => h) ⟨by rfl, ?y0_1⟩ (by assumption) ?r0_1
 case y0_1 => (intro w; go_simp; try with_reducible rfl)
 try simp only [Act.put, yA, yB, yD, yE, yF]
 refine tkP (i := 1) (v := ?v1_1) rfl (by kernel_rfl) (fun _ _ _ h => h) ⟨by rfl, ?y1_1⟩ (by assumption) ?r1_1
 case y1_1 => (intro w; go_simp; try with_reducible rfl)
 try simp only [Act.put, yA, yB, yC, yD, yE, yF]
 refine tkP (i := 2) (v := ?v2_1) rfl (by kernel_rfl) (fun _ _ _ h => h) ⟨by rfl, ?y2_1⟩ (by assumption) ?r2_1
 case y2_1 => (intro w; go_simp; try with_reducible rfl)
 try simp only [Act.put, yA, yB, yC, yD, yE, yF]
 refine tkP (i := 3) (v := ?v3_1) rfl (by kernel_rfl) (fun _ _ _ h => h) ⟨by rfl, ?y3_1⟩ (by assumption) ?r3_1
 case y3_1 => (intro w; go_simp; try with_reducible rfl)
 try simp only [Act.put, yA, yB, yC, yD, yE, yF]
 refine tkP (i := 4) (v := ?v4_1) rfl (by kernel_rfl) (fun _ _ _ h => h) ⟨by rfl, ?y4_1⟩ (by assumption) ?r4_1
 case y4_1 => (intro w; go_simp; try with_reducible rfl)
 try simp only [Act.put, yA, yB, yC, yD, yE, yF]
 refine tkL (i := 5) (c := 18) (v := ?v5_1) rfl (by kernel_rfl) (fun _ _ _ h => h) ⟨by rfl, ?y5_1⟩ (by assumption) ?r5_1
 case y5_1 => (intro w hSw; go_split_ands; go_simp; try with_reducible rfl)
 try simp only [Act.put, yA, yB, yC, yD, yE, yF]
 refine tkP (i := 6) (v := ?v6_1) rfl (by kernel_rfl) (fun _ _ _ h => h) ⟨by rfl, ?y6_1⟩ (by assumption) ?r6_1
 case y6_1 => (intro w; go_simp; try with_reducible rfl)
 try simp only [Act.put, yA, yB, yC, yD, yE, yF]
 refine tkP (i := 7) (v := ?v7_1) rfl (by kernel_rfl) (fun _ _ _ h => h) ⟨by rfl, ?y7_1⟩ (by assumption) ?r7_1
 case y7_1 => (intro w; go_simp; try with_reducible rfl)
 try simp only [Act.put, yA, yB, yC, yD, yE, yF]
 refine tkP (i := 8) (v := ?v8_1) rfl (by kernel_rfl) (fun _ _ _ h => h) ⟨by rfl, ?y8_1⟩ (by assumption) ?r8_1
 case y8_1 => (intro w; go_simp; try with_reducible rfl)
 try simp only [Act.put, yA, yB, yC, yD, yE, yF]
 refine tkL (i := 9) (c := 18) (v := ?v9_1) rfl (by kernel_rfl) (fun _ _ _ h => h) ⟨by rfl, ?y9_1⟩ (by assumption) ?r9_1
 case y9_1 => (intro w hSw; go_split_ands; go_simp; try with_reducible rfl)
 try simp only [Act.put, yA, yB, yC, yD, yE, yF]
 refine tkP (i := 10) (v := ?v10_1) rfl (by kernel_rfl) (fun _ _ _ h => h) ⟨by rfl, ?y10_1⟩ (by assumption) ?r10_1
 case y10_1 => (intro w; go_simp; try with_reducible rfl)
 try simp only [Act.put, yA, yB, yC, yD, yE, yF]
 refine tkP (i := 11) (v := ?v11_1) rfl (by kernel_rfl) (fun _ _ _ h => h) ⟨by rfl, ?y11_1⟩ (by assumption) ?r11_1
 case y11_1 => (intro w; go_simp; try with_reducible rfl)
 try simp only [Act.put, yA, yB, yC, yD, yE, yF]
 refine tkP (i := 12) (v := ?v12_1) rfl (by kernel_rfl) (fun _ _ _ h => h) ⟨by rfl, ?y12_1⟩ (by assumption) ?r12_1
 case y12_1 => (intro w; go_simp; try with_reducible rfl)
 try simp only [Act.put, yA, yB, yC, yD, yE, yF]
 refine tkL (i := 13) (c := 18) (v := ?v13_1) rfl (by kernel_rfl) (fun _ _ _ h => h) ⟨by rfl, ?y13_1⟩ (by assumption) ?r13_1
 case y13_1 => (intro w hSw; go_split_ands; go_simp; try with_reducible rfl)
 try simp only [Act.put, yA, yB, yC, yD, yE, yF]
 refine tkP (i := 14) (v := ?v14_1) rfl (by kernel_rfl) (fun _ _ _ h => h) ⟨by rfl, ?y14_1⟩ (by assumption) ?r14_1
 case y14_1 => (intro w; go_simp; try with_reducible rfl)
 try simp only [Act.put, yA, yB, yC, yD, yE, yF]
 refine tkP (i := 15) (v := ?v15_1) rfl (by kernel_rfl) (fun _ _ _ h => h) ⟨by rfl, ?y15_1⟩ (by assumption) ?r15_1
 case y15_1 => (intro w; go_simp; try with_reducible rfl)
 try simp only [Act.put, yA, yB, yC, yD, yE, yF]
 refine tkP (i := 16) (v := ?v16_1) rfl (by kernel_rfl) (fun _ _ _ h => h) ⟨by rfl, ?y16_1⟩ (by assumption) ?r16_1
 case y16_1 => (intro w; go_simp; try with_reducible rfl)
 try simp only [Act.put, yA, yB, yC, yD, yE, yF]
 refine tkL (i := 17) (c := 18) (v := ?v17_1) rfl (by kernel_rfl) (fun _ _ _ h => h) ⟨by rfl, ?y17_1⟩ (by assumption) ?r17_1
 case y17_1 => (intro w hSw; go_split_ands; go_simp; try with_reducible rfl)
 try simp only [Act.put, yA, yB, yC, yD, yE, yF]
 refine tkO (i := 18) rfl (by kernel_rfl) (fun K hK => ?_)
 go_simp
 refine H_hdiv.out.mono ?_; rintro e w1 ⟨qv, lq, rv, lr, rfl, g1, g2, g3, g4, g5, g6, g7, g8, g9, g10⟩; have g7 := g7.of_drew; have sz := H_hz.out.str.keep g7 H_nz.out; have sx := H_hx.out.str.keep g7 H_nx.out; have sy := H_hy.out.str.keep g7 H_ny.out; have sr := H_hr.out.str.keep g7 H_nr.out; have j0 : w1.cell? ⟨bz, 1, none⟩ = some vz := sz.c1; have j1 : w1.cell? ⟨br, 1, none⟩ = some vr := sr.c1; have j2 : w1.cell? ⟨bx, 1, none⟩ = some vx := sx.c1; have j3 : w1.cell? ⟨bY, 1, none⟩ = some vy := sy.c1; have fz : w1.frozen? ⟨bz, 1, none⟩ = false := sz.f1; have fr : w1.frozen? ⟨br, 1, none⟩ = false := sr.f1; obtain ⟨qa, qc, hqv⟩ := g1.form; obtain ⟨ra, rc, hrv⟩ := g4.form; generalize hnq : lq.length = nq at *; generalize hnr : lr.length = nr at *; subst hqv; subst hrv; have H_g1 := hid g1; clear g1; have H_g2 := hid g2; clear g2; have H_g3 := hid g3; clear g3; have H_g4 := hid g4; clear g4; have H_g5 := hid g5; clear g5; have H_g6 := hid g6; clear g6; have H_g7 := hid g7; clear g7; have H_g8 := hid g8; clear g8; have H_g9 := hid g9; clear g9; have H_g10 := hid g10; clear g10; have H_sz := hid sz; clear sz; have H_sx := hid sx; clear sx; have H_sy := hid sy; clear sy; have H_sr := hid sr; clear sr; have H_hnq := hid hnq; clear hnq; have H_hnr := hid hnr; clear hnr
 go_wp2_with (fail)
 have hHeld1 : ((fun (w' : World) => w'.cell? ⟨bz, 1, none⟩ = some vz ∧ w'.cell? ⟨br, 1, none⟩ = some vr ∧ w'.cell? ⟨bx, 1, none⟩ = some vx ∧ w'.cell? ⟨bY, 1, none⟩ = some vy)) _ := ⟨j0, j1, j2, j3⟩
 refine hK.out _ _ (fun _ => hHeld1) ?_
 clear hK K
 try simp only [Act.put, yA, yB, yC, yD, yE, yF]
 refine tkP (i := 19) (v := ?v19_1) rfl (by kernel_rfl) (fun _ _ _ h => h) ⟨by rfl, ?y19_1⟩ (by assumption) ?r19_1
 case y19_1 => (intro w; go_simp; try with_reducible rfl)
 try simp only [Act.put, yA, yB, yC, yD, yE, yF]
 refine tkP (i := 20) (v := ?v20_1) rfl (by kernel_rfl) (fun _ _ _ h => h) ⟨by rfl, ?y20_1⟩ (by assumption) ?r20_1
 case y20_1 => (intro w; go_simp; try with_reducible rfl)
 try simp only [Act.put, yA, yB, yC, yD, yE, yF]
 refine tkP (i := 21) (v := ?v21_1) rfl (by kernel_rfl) (fun _ _ _ h => h) ⟨by rfl, ?y21_1⟩ (by assumption) ?r21_1
 case y21_1 => (intro w; go_simp; try with_reducible rfl)
 try simp only [Act.put, yA, yB, yC, yD, yE, yF]
 refine tkP (i := 22) (v := ?v22_1) rfl (by kernel_rfl) (fun _ _ _ h => h) ⟨by rfl, ?y22_1⟩ (by assumption) ?r22_1
 case y22_1 => (intro w; go_simp; try with_reducible rfl)
 try simp only [Act.put, yA, yB, yC, yD, yE, yF]
 refine tkP (i := 23) (v := ?v23_1) rfl (by kernel_rfl) (fun _ _ _ h => h) ⟨by rfl, ?y23_1⟩ (by assumption) ?r23_1
 case y23_1 => (intro w; go_simp; try with_reducible rfl)
 try simp only [Act.put, yA, yB, yC, yD, yE, yF]
 refine tkO (i := 24) rfl (by kernel_rfl) (fun K hK => ?_)
 go_simp
 refine hK.out _ _ (fun h => Bool.noConfusion (show true = false from h)) ?_
 clear hK K
 try simp only [Act.put, yA, yB, yC, yD, yE, yF]
 refine tkO (i := 25) rfl (by kernel_rfl) (fun K hK => ?_)
 go_simp
 refine hK.out _ _ (fun h => Bool.noConfusion (show true = false from h)) ?_
 clear hK K
 try simp only [Act.put, yA, yB, yC, yD, yE, yF]
 refine tkO (i := 26) rfl (by kernel_rfl) (fun K hK => ?_)
 go_simp
 refine hK.out _ _ (fun h => Bool.noConfusion (show true = false from h)) ?_
 clear hK K
 try simp only [Act.put, yA, yB, yC, yD, yE, yF]
 refine tkO (i := 27) rfl (by kernel_rfl) (fun K hK => ?_)
 go_simp
 refine hK.out _ _ (fun h => Bool.noConfusion (show true = false from h)) ?_
 clear hK K
 try simp only [Act.put, yA, yB, yC, yD, yE, yF]
 refine tkD (by kernel_rfl) ?_ _
 have hd1 : bz ≠ br := e1
 generalize hV1 : (w1.setCell ⟨bz, 1, none⟩ (.slice qa nq qc)) = V1
 generalize hV2 : (V1.setCell ⟨br, 1, none⟩ (.slice ra nr rc)) = V2
 have k1 : Keep (fun k => k = bz) w1 V1 := by rw [← hV1]; exact Keep.setCell (S := fun k => k = bz) (Keep.refl _ _) (fun _ => rfl) _
 have k2 : Keep (fun k => k = br) V1 V2 := by rw [← hV2]; exact Keep.setCell (S := fun k => k = br) (Keep.refl _ _) (fun _ => rfl) _
 have tz1 : StrAt V1 bz 0 negz (.slice qa nq qc) := by rw [← hV1]; exact H_sz.out.set1 _
 have tz : StrAt V2 bz 0 negz (.slice qa nq qc) := tz1.keep k2 (fun e => hd1 e)
 have tr : StrAt V2 br 0 negr (.slice ra nr rc) := by rw [← hV2]; exact (H_sr.out.keep k1 (fun e => hd1 e.symm)).set1 _
 have tx : StrAt V2 bx 0 negx vx := (H_sx.out.keep k1 H_d2.out).keep k2 H_d3.out
 have ty : StrAt V2 bY 0 negy vy := (H_sy.out.keep k1 H_d4.out).keep k2 H_d5.out
 have oq : ∀ k, (Value.slice qa nq qc).ownBlock = some k → bz ≠ k ∧ br ≠ k := fun k hk => ⟨fun e => IntIs.ne H_sz.out H_g1.out hk e, fun e => IntIs.ne H_sr.out H_g1.out hk e⟩
 have or_ : ∀ k, (Value.slice ra nr rc).ownBlock = some k → bz ≠ k ∧ br ≠ k := fun k hk => ⟨fun e => IntIs.ne H_sz.out H_g4.out hk e, fun e => IntIs.ne H_sr.out H_g4.out hk e⟩
 have nq2 : NatAt V2 (.slice qa nq qc) lq := (H_g1.out.keep k1 (fun k hk e => (oq k hk).1 e.symm)).keep k2 (fun k hk e => (oq k hk).2 e.symm)
 have nr2 : NatAt V2 (.slice ra nr rc) lr := (H_g4.out.keep k1 (fun k hk e => (or_ k hk).1 e.symm)).keep k2 (fun k hk e => (or_ k hk).2 e.symm)
 have kw : Keep (fun k => k = bz ∨ k = br ∨ vz.ownBlock = some k ∨ vr.ownBlock = some k) w V2 := (H_g7.out.trans k1 (U := fun k => k = bz ∨ k = br ∨ vz.ownBlock = some k ∨ vr.ownBlock = some k) (fun _ _ h => .inr (.inr h)) (fun _ _ h => .inl h)).trans k2 (fun _ _ h => h) (fun _ _ h => .inr (.inl h))
 -- the ending: both signs are written
 have hend : ∀ (nb mb : Bool) (W : World), (V2.setCell ⟨bz, 0, none⟩ (.bool nb)).setCell ⟨br, 0, none⟩ (.bool mb) = W → (lq = [] → nb = false) → (lr = [] → mb = false) → ival nb lq = (ival negx lx).tdiv (ival negy ly) → ival mb lr = (ival negx lx).tmod (ival negy ly) →
  QRZ w bz br vz vr ((ival negx lx).tdiv (ival negy ly)) ((ival negx lx).tmod (ival negy ly)) W := by
  rintro nb mb W rfl e1 e2 e3 e4
  have m1 : Keep (fun k => k = bz) V2 (V2.setCell ⟨bz, 0, none⟩ (.bool nb)) := Keep.setCell (S := fun k => k = bz) (Keep.refl _ _) (fun _ => rfl) _
  have m2 : ∀ U, Keep (fun k => k = br) U (U.setCell ⟨br, 0, none⟩ (.bool mb)) := fun U => Keep.setCell (S := fun k => k = br) (Keep.refl _ _) (fun _ => rfl) _
  refine ⟨_, _, ⟨nb, lq, ⟨(tz.set0 nb).keep (m2 _) (fun e => hd1 e), (nq2.keep m1 (fun k hk e => (oq k hk).1 e.symm)).keep (m2 _) (fun k hk e => (oq k hk).2 e.symm), H_g2.out, e1⟩, e3⟩,
   ⟨mb, lr, ⟨(tr.keep m1 (fun e => hd1 e.symm)).set0 mb, (nr2.keep m1 (fun k hk e => (or_ k hk).1 e.symm)).keep (m2 _) (fun k hk e => (or_ k hk).2 e.symm), H_g5.out, e2⟩, e4⟩,
   (kw.trans m1 (fun _ _ h => h) (fun _ _ h => .inl h)).trans (m2 _) (fun _ _ h => h) (fun _ _ h => .inr (.inl h)), H_g8.out, H_g9.out, H_g10.out⟩
 have u0 : V2.cell? ⟨bz, 1, none⟩ = some (.slice qa nq qc) := tz.c1
 have u1 : V2.cell? ⟨br, 1, none⟩ = some (.slice ra nr rc) := tr.c1
 have u2 : V2.cell? ⟨bx, 0, none⟩ = some (.bool negx) := tx.c0
 have u3 : V2.cell? ⟨bY, 0, none⟩ = some (.bool negy) := ty.c0
 have u4 : V2.cell? ⟨bz, 0, none⟩ = some (.bool negz) := tz.c0
 have u5 : V2.cell? ⟨br, 0, none⟩ = some (.bool negr) := tr.c0
 have v4 : V2.frozen? ⟨bz, 0, none⟩ = false := tz.f0
 have v5 : V2.frozen? ⟨br, 0, none⟩ = false := tr.f0
 clear cz1 cx1 cy1 cr1 j0 j1 j2 j3 fz fr
 have h3 := H_g3.out
 have h6 := H_g6.out
 have hlq := H_hnq.out
 have hlr := H_hnr.out
 clear H_g1 H_g2 H_g3 H_g4 H_g5 H_g6 H_g7 H_g8 H_g9 H_g10 H_sz H_sx H_sy H_sr H_hz H_hx H_hy H_hr H_hdiv
 have H_hV1 := hid hV1; have H_hV2 := hid hV2; have H_k1 := hid k1; have H_k2 := hid k2; have H_tz1 := hid tz1; have H_tz := hid tz; have H_tr := hid tr; have H_tx := hid tx; have H_ty := hid ty; have H_oq := hid oq; have H_or_ := hid or_; have H_nq2 := hid nq2; have H_nr2 := hid nr2; have H_kw := hid kw; have H_hend := hid hend; have H_h3 := hid h3; have H_h6 := hid h6; have H_hlq := hid hlq; have H_hlr := hid hlr; have H_hd1 := hid hd1; clear hV1 hV2 k1 k2 tz1 tz tr tx ty oq or_ nq2 nr2 kw hend h3 h6 hlq hlr hd1
 rcases Nat.eq_zero_or_pos nq with dq | dq <;> rcases Nat.eq_zero_or_pos nr with dr | dr
 · have t1 : decide ((0 : Int) < (nq : Int)) = false := by simp; omega
   have t2 : decide ((0 : Int) < (nr : Int)) = false := by simp; omega
   have t3 : decide (0 < nq) = false := by simp; omega
   have t4 : decide (0 < nr) = false := by simp; omega
   have H_dq := hid dq; have H_dr := hid dr; clear dq dr
   go_wp2_with (fail)
   refine rgE (S := (fun (w' : World) => w'.cell? ⟨bz, 1, none⟩ = some (.slice qa nq qc) ∧ w'.cell? ⟨br, 1, none⟩ = some (.slice ra nr rc) ∧ w'.cell? ⟨bx, 0, none⟩ = some (.bool negx) ∧ w'.cell? ⟨bY, 0, none⟩ = some (.bool negy))) 33 (by kernel_rfl) (by exact ⟨u0, u1, u2, u3⟩) (fun hHeld => ?_)
   refine tkP (i := 0) (v := ?v0_2) rfl (by kernel_rfl) (fun _ _ _ h => h) ⟨by rfl, ?y0_2⟩ (by assumption) ?r0_2
   case y0_2 => (intro w; go_simp; try with_reducible rfl)
   try simp only [Act.put, yA, yB, yD, yE, yF]
   refine tkP (i := 1) (v := ?v1_2) rfl (by kernel_rfl) (fun _ _ _ h => h) ⟨by rfl, ?y1_2⟩ (by assumption) ?r1_2
   case y1_2 => (intro w; go_simp; try with_reducible rfl)
   try simp only [Act.put, yA, yB, yC, yD, yE, yF]
   refine tkP (i := 2) (v := ?v2_2) rfl (by kernel_rfl) (fun _ _ _ h => h) ⟨by rfl, ?y2_2⟩ (by assumption) ?r2_2
   case y2_2 => (intro w; go_simp; try with_reducible rfl)
   try simp only [Act.put, yA, yB, yC, yD, yE, yF]
   refine tkP (i := 3) (v := ?v3_2) rfl (by kernel_rfl) (fun _ _ _ h => h) ⟨by rfl, ?y3_2⟩ (by assumption) ?r3_2
   case y3_2 => (intro w; go_simp; try with_reducible rfl)
   try simp only [Act.put, yA, yB, yC, yD, yE, yF]
   refine tkP (i := 4) (v := ?v4_2) rfl (by kernel_rfl) (fun _ _ _ h => h) ⟨by rfl, ?y4_2⟩ (by assumption) ?r4_2
   case y4_2 => (intro w; go_simp; try with_reducible rfl)
   try simp only [Act.put, yA, yB, yC, yD, yE, yF]
   refine tkS (i := 5) (v := ?v5_2) rfl (by kernel_rfl) (fun _ _ _ h => h) ⟨by rfl, ?y5_2⟩ (by assumption) ?r5_2
   case y5_2 => (intro w hSw; go_split_ands; go_simp; try with_reducible rfl)
   try simp only [Act.put, yA, yB, yC, yD, yE, yF]
   refine tkP (i := 6) (v := ?v6_2) rfl (by kernel_rfl) (fun _ _ _ h => h) ⟨by rfl, ?y6_2⟩ (by assumption) ?r6_2
   case y6_2 => (intro w; go_simp; try with_reducible rfl)
   try simp only [Act.put, yA, yB, yC, yD, yE, yF]
   refine tkP (i := 7) (v := .bool false) rfl (by kernel_rfl) (fun _ _ _ h => h) ⟨by rfl, ?y7_2⟩ (by assumption) ?r7_2
   case y7_2 => (intro w; go_simp)
   try simp only [Act.put, yA, yB, yC, yD, yE, yF]
   refine tkP (i := 8) (v := .bool false) rfl (by kernel_rfl) (fun _ _ _ h => h) ⟨by rfl, ?y8_2⟩ (by assumption) ?r8_2
   case y8_2 => (intro w; go_simp)
   try simp only [Act.put, yA, yB, yC, yD, yE, yF]
   refine tkU (i := 9) rfl (by kernel_rfl) (fun _ _ _ h => h) (by rfl) (by assumption) ?_
   try simp only [Act.put, yA, yB, yC, yD, yE, yF]
   refine tkU (i := 10) rfl (by kernel_rfl) (fun _ _ _ h => h) (by rfl) (by assumption) ?_
   try simp only [Act.put, yA, yB, yC, yD, yE, yF]
   refine tkU (i := 11) rfl (by kernel_rfl) (fun _ _ _ h => h) (by rfl) (by assumption) ?_
   try simp only [Act.put, yA, yB, yC, yD, yE, yF]
   refine tkU (i := 12) rfl (by kernel_rfl) (fun _ _ _ h => h) (by rfl) (by assumption) ?_
   try simp only [Act.put, yA, yB, yC, yD, yE, yF]
   refine tkU (i := 13) rfl (by kernel_rfl) (fun _ _ _ h => h) (by rfl) (by assumption) ?_
   try simp only [Act.put, yA, yB, yC, yD, yE, yF]
   refine tkU (i := 14) rfl (by kernel_rfl) (fun _ _ _ h => h) (by rfl) (by assumption) ?_
   try simp only [Act.put, yA, yB, yC, yD, yE, yF]
   refine tkU (i := 15) rfl (by kernel_rfl) (fun _ _ _ h => h) (by rfl) (by assumption) ?_
   try simp only [Act.put, yA, yB, yC, yD, yE, yF]
   refine tkU (i := 16) rfl (by kernel_rfl) (fun _ _ _ h => h) (by rfl) (by assumption) ?_
   try simp only [Act.put, yA, yB, yC, yD, yE, yF]
   refine tkU (i := 17) rfl (by kernel_rfl) (fun _ _ _ h => h) (by rfl) (by assumption) ?_
   try simp only [Act.put, yA, yB, yC, yD, yE, yF]
   refine tkP (i := 18) (v := ?v18_2) rfl (by kernel_rfl) (fun _ _ _ h => h) ⟨by rfl, ?y18_2⟩ (by assumption) ?r18_2
   case y18_2 => (intro w; go_simp; try with_reducible rfl)
   try simp only [Act.put, yA, yB, yC, yD, yE, yF]
   refine tkP (i := 19) (v := ?v19_2) rfl (by kernel_rfl) (fun _ _ _ h => h) ⟨by rfl, ?y19_2⟩ (by assumption) ?r19_2
   case y19_2 => (intro w; go_simp; try with_reducible rfl)
   try simp only [Act.put, yA, yB, yC, yD, yE, yF]
   refine tkP (i := 20) (v := ?v20_2) rfl (by kernel_rfl) (fun _ _ _ h => h) ⟨by rfl, ?y20_2⟩ (by assumption) ?r20_2
   case y20_2 => (intro w; go_simp; try with_reducible rfl)
   try simp only [Act.put, yA, yB, yC, yD, yE, yF]
   refine tkP (i := 21) (v := ?v21_2) rfl (by kernel_rfl) (fun _ _ _ h => h) ⟨by rfl, ?y21_2⟩ (by assumption) ?r21_2
   case y21_2 => (intro w; go_simp; try with_reducible rfl)
   try simp only [Act.put, yA, yB, yC, yD, yE, yF]
   refine tkS (i := 22) (v := ?v22_2) rfl (by kernel_rfl) (fun _ _ _ h => h) ⟨by rfl, ?y22_2⟩ (by assumption) ?r22_2
   case y22_2 => (intro w hSw; go_split_ands; go_simp; try with_reducible rfl)
   try simp only [Act.put, yA, yB, yC, yD, yE, yF]
   refine tkP (i := 23) (v := ?v23_2) rfl (by kernel_rfl) (fun _ _ _ h => h) ⟨by rfl, ?y23_2⟩ (by assumption) ?r23_2
   case y23_2 => (intro w; go_simp; try with_reducible rfl)
   try simp only [Act.put, yA, yB, yC, yD, yE, yF]
   refine tkP (i := 24) (v := .bool false) rfl (by kernel_rfl) (fun _ _ _ h => h) ⟨by rfl, ?y24_2⟩ (by assumption) ?r24_2
   case y24_2 => (intro w; go_simp)
   try simp only [Act.put, yA, yB, yC, yD, yE, yF]
   refine tkP (i := 25) (v := .bool false) rfl (by kernel_rfl) (fun _ _ _ h => h) ⟨by rfl, ?y25_2⟩ (by assumption) ?r25_2
   case y25_2 => (intro w; go_simp)
   try simp only [Act.put, yA, yB, yC, yD, yE, yF]
   refine tkU (i := 26) rfl (by kernel_rfl) (fun _ _ _ h => h) (by rfl) (by assumption) ?_
   try simp only [Act.put, yA, yB, yC, yD, yE, yF]
   refine tkU (i := 27) rfl (by kernel_rfl) (fun _ _ _ h => h) (by rfl) (by assumption) ?_
   try simp only [Act.put, yA, yB, yC, yD, yE, yF]
   refine tkU (i := 28) rfl (by kernel_rfl) (fun _ _ _ h => h) (by rfl) (by assumption) ?_
   try simp only [Act.put, yA, yB, yC, yD, yE, yF]
   refine tkU (i := 29) rfl (by kernel_rfl) (fun _ _ _ h => h) (by rfl) (by assumption) ?_
   try simp only [Act.put, yA, yB, yC, yD, yE, yF]
   refine tkP (i := 30) (v := ?v30_2) rfl (by kernel_rfl) (fun _ _ _ h => h) ⟨by rfl, ?y30_2⟩ (by assumption) ?r30_2
   case y30_2 => (intro w; go_simp; try with_reducible rfl)
   try simp only [Act.put, yA, yB, yC, yD, yE, yF]
   refine tkP (i := 31) (v := ?v31_2) rfl (by kernel_rfl) (fun _ _ _ h => h) ⟨by rfl, ?y31_2⟩ (by assumption) ?r31_2
   case y31_2 => (intro w; go_simp; try with_reducible rfl)
   try simp only [Act.put, yA, yB, yC, yD, yE, yF]
   refine tkP (i := 32) (v := ?v32_2) rfl (by kernel_rfl) (fun _ _ _ h => h) ⟨by rfl, ?y32_2⟩ (by assumption) ?r32_2
   case y32_2 => (intro w; go_simp; try with_reducible rfl)
   try simp only [Act.put, yA, yB, yC, yD, yE, yF]
   refine tkO (i := 33) rfl (by kernel_rfl) (fun K hK => ?_)
   go_simp
   refine hK.out _ _ (fun h => Bool.noConfusion (show true = false from h)) ?_
   clear hK K
   try simp only [Act.put, yA, yB, yC, yD, yE, yF]
   refine tkO (i := 34) rfl (by kernel_rfl) (fun K hK => ?_)
   go_simp
   refine hK.out _ _ (fun h => Bool.noConfusion (show true = false from h)) ?_
   clear hK K
   try simp only [Act.put, yA, yB, yC, yD, yE, yF]
   refine tkO (i := 35) rfl (by kernel_rfl) (fun K hK => ?_)
   go_simp
   refine hK.out _ _ (fun h => Bool.noConfusion (show true = false from h)) ?_
   clear hK K
   try simp only [Act.put, yA, yB, yC, yD, yE, yF]
   refine tkO (i := 36) rfl (by kernel_rfl) (fun K hK => ?_)
   go_simp
   refine hK.out _ _ (fun h => Bool.noConfusion (show true = false from h)) ?_
   clear hK K
   try simp only [Act.put, yA, yB, yC, yD, yE, yF]
   refine tkD (by kernel_rfl) ?_ _
   go_wp2_with (fail)
   go_ret2
   refine ⟨rfl, ?_⟩
   have hq := H_hend.out false false _ rfl (fun _ => rfl) (fun _ => rfl) (by
    have e : lq = [] := List.eq_nil_of_length_eq_zero (by rw [H_hlq.out]; exact H_dq.out)
    have h := H_h3.out
    rw [e] at h ⊢
    exact (ival_quo_zero h.symm).symm) (by
    have e : lr = [] := List.eq_nil_of_length_eq_zero (by rw [H_hlr.out]; exact H_dr.out)
    have h := H_h6.out
    rw [e] at h ⊢
    exact (ival_rem_zero h.symm).symm)
   exact hq.drew
 · have t1 : decide ((0 : Int) < (nq : Int)) = false := by simp; omega
   have t2 : decide ((0 : Int) < (nr : Int)) = true := by simp; omega
   have t3 : decide (0 < nq) = false := by simp; omega
   have t4 : decide (0 < nr) = true := by simp; omega
   have H_dq := hid dq; have H_dr := hid dr; clear dq dr
   go_wp2_with (fail)
   refine rgE (S := (fun (w' : World) => w'.cell? ⟨bz, 1, none⟩ = some (.slice qa nq qc) ∧ w'.cell? ⟨br, 1, none⟩ = some (.slice ra nr rc) ∧ w'.cell? ⟨bx, 0, none⟩ = some (.bool negx) ∧ w'.cell? ⟨bY, 0, none⟩ = some (.bool negy))) 33 (by kernel_rfl) (by exact ⟨u0, u1, u2, u3⟩) (fun hHeld => ?_)
   refine tkP (i := 0) (v := ?v0_3) rfl (by kernel_rfl) (fun _ _ _ h => h) ⟨by rfl, ?y0_3⟩ (by assumption) ?r0_3
   case y0_3 => (intro w; go_simp; try with_reducible rfl)
   try simp only [Act.put, yA, yB, yD, yE, yF]
   refine tkP (i := 1) (v := ?v1_3) rfl (by kernel_rfl) (fun _ _ _ h => h) ⟨by rfl, ?y1_3⟩ (by assumption) ?r1_3
   case y1_3 => (intro w; go_simp; try with_reducible rfl)
   try simp only [Act.put, yA, yB, yC, yD, yE, yF]
   refine tkP (i := 2) (v := ?v2_3) rfl (by kernel_rfl) (fun _ _ _ h => h) ⟨by rfl, ?y2_3⟩ (by assumption) ?r2_3
   case y2_3 => (intro w; go_simp; try with_reducible rfl)
   try simp only [Act.put, yA, yB, yC, yD, yE, yF]
   refine tkP (i := 3) (v := ?v3_3) rfl (by kernel_rfl) (fun _ _ _ h => h) ⟨by rfl, ?y3_3⟩ (by assumption) ?r3_3
   case y3_3 => (intro w; go_simp; try with_reducible rfl)
   try simp only [Act.put, yA, yB, yC, yD, yE, yF]
   refine tkP (i := 4) (v := ?v4_3) rfl (by kernel_rfl) (fun _ _ _ h => h) ⟨by rfl, ?y4_3⟩ (by assumption) ?r4_3
   case y4_3 => (intro w; go_simp; try with_reducible rfl)
   try simp only [Act.put, yA, yB, yC, yD, yE, yF]
   refine tkS (i := 5) (v := ?v5_3) rfl (by kernel_rfl) (fun _ _ _ h => h) ⟨by rfl, ?y5_3⟩ (by assumption) ?r5_3
   case y5_3 => (intro w hSw; go_split_ands; go_simp; try with_reducible rfl)
   try simp only [Act.put, yA, yB, yC, yD, yE, yF]
   refine tkP (i := 6) (v := ?v6_3) rfl (by kernel_rfl) (fun _ _ _ h => h) ⟨by rfl, ?y6_3⟩ (by assumption) ?r6_3
   case y6_3 => (intro w; go_simp; try with_reducible rfl)
   try simp only [Act.put, yA, yB, yC, yD, yE, yF]
   refine tkP (i := 7) (v := .bool false) rfl (by kernel_rfl) (fun _ _ _ h => h) ⟨by rfl, ?y7_3⟩ (by assumption) ?r7_3
   case y7_3 => (intro w; go_simp)
   try simp only [Act.put, yA, yB, yC, yD, yE, yF]
   refine tkP (i := 8) (v := .bool false) rfl (by kernel_rfl) (fun _ _ _ h => h) ⟨by rfl, ?y8_3⟩ (by assumption) ?r8_3
   case y8_3 => (intro w; go_simp)
   try simp only [Act.put, yA, yB, yC, yD, yE, yF]
   refine tkU (i := 9) rfl (by kernel_rfl) (fun _ _ _ h => h) (by rfl) (by assumption) ?_
   try simp only [Act.put, yA, yB, yC, yD, yE, yF]
   refine tkU (i := 10) rfl (by kernel_rfl) (fun _ _ _ h => h) (by rfl) (by assumption) ?_
   try simp only [Act.put, yA, yB, yC, yD, yE, yF]
   refine tkU (i := 11) rfl (by kernel_rfl) (fun _ _ _ h => h) (by rfl) (by assumption) ?_
   try simp only [Act.put, yA, yB, yC, yD, yE, yF]
   refine tkU (i := 12) rfl (by kernel_rfl) (fun _ _ _ h => h) (by rfl) (by assumption) ?_
   try simp only [Act.put, yA, yB, yC, yD, yE, yF]
   refine tkU (i := 13) rfl (by kernel_rfl) (fun _ _ _ h => h) (by rfl) (by assumption) ?_
   try simp only [Act.put, yA, yB, yC, yD, yE, yF]
   refine tkU (i := 14) rfl (by kernel_rfl) (fun _ _ _ h => h) (by rfl) (by assumption) ?_
   try simp only [Act.put, yA, yB, yC, yD, yE, yF]
   refine tkU (i := 15) rfl (by kernel_rfl) (fun _ _ _ h => h) (by rfl) (by assumption) ?_
   try simp only [Act.put, yA, yB, yC, yD, yE, yF]
   refine tkU (i := 16) rfl (by kernel_rfl) (fun _ _ _ h => h) (by rfl) (by assumption) ?_
   try simp only [Act.put, yA, yB, yC, yD, yE, yF]
   refine tkU (i := 17) rfl (by kernel_rfl) (fun _ _ _ h => h) (by rfl) (by assumption) ?_
   try simp only [Act.put, yA, yB, yC, yD, yE, yF]
   refine tkP (i := 18) (v := ?v18_3) rfl (by kernel_rfl) (fun _ _ _ h => h) ⟨by rfl, ?y18_3⟩ (by assumption) ?r18_3
   case y18_3 => (intro w; go_simp; try with_reducible rfl)
   try simp only [Act.put, yA, yB, yC, yD, yE, yF]
   refine tkP (i := 19) (v := ?v19_3) rfl (by kernel_rfl) (fun _ _ _ h => h) ⟨by rfl, ?y19_3⟩ (by assumption) ?r19_3
   case y19_3 => (intro w; go_simp; try with_reducible rfl)
   try simp only [Act.put, yA, yB, yC, yD, yE, yF]
   refine tkP (i := 20) (v := ?v20_3) rfl (by kernel_rfl) (fun _ _ _ h => h) ⟨by rfl, ?y20_3⟩ (by assumption) ?r20_3
   case y20_3 => (intro w; go_simp; try with_reducible rfl)
   try simp only [Act.put, yA, yB, yC, yD, yE, yF]
   refine tkP (i := 21) (v := ?v21_3) rfl (by kernel_rfl) (fun _ _ _ h => h) ⟨by rfl, ?y21_3⟩ (by assumption) ?r21_3
   case y21_3 => (intro w; go_simp; try with_reducible rfl)
   try simp only [Act.put, yA, yB, yC, yD, yE, yF]
   refine tkS (i := 22) (v := ?v22_3) rfl (by kernel_rfl) (fun _ _ _ h => h) ⟨by rfl, ?y22_3⟩ (by assumption) ?r22_3
   case y22_3 => (intro w hSw; go_split_ands; go_simp; try with_reducible rfl)
   try simp only [Act.put, yA, yB, yC, yD, yE, yF]
   refine tkP (i := 23) (v := ?v23_3) rfl (by kernel_rfl) (fun _ _ _ h => h) ⟨by rfl, ?y23_3⟩ (by assumption) ?r23_3
   case y23_3 => (intro w; go_simp; try with_reducible rfl)
   try simp only [Act.put, yA, yB, yC, yD, yE, yF]
   refine tkP (i := 24) (v := .bool true) rfl (by kernel_rfl) (fun _ _ _ h => h) ⟨by rfl, ?y24_3⟩ (by assumption) ?r24_3
   case y24_3 => (intro w; go_simp)
   try simp only [Act.put, yA, yB, yC, yD, yE, yF]
   refine tkP (i := 25) (v := .bool true) rfl (by kernel_rfl) (fun _ _ _ h => h) ⟨by rfl, ?y25_3⟩ (by assumption) ?r25_3
   case y25_3 => (intro w; go_simp)
   try simp only [Act.put, yA, yB, yC, yD, yE, yF]
   refine tkP (i := 26) (v := ?v26_3) rfl (by kernel_rfl) (fun _ _ _ h => h) ⟨by rfl, ?y26_3⟩ (by assumption) ?r26_3
   case y26_3 => (intro w; go_simp; try with_reducible rfl)
   try simp only [Act.put, yA, yB, yC, yD, yE, yF]
   refine tkP (i := 27) (v := ?v27_3) rfl (by kernel_rfl) (fun _ _ _ h => h) ⟨by rfl, ?y27_3⟩ (by assumption) ?r27_3
   case y27_3 => (intro w; go_simp; try with_reducible rfl)
   try simp only [Act.put, yA, yB, yC, yD, yE, yF]
   refine tkP (i := 28) (v := ?v28_3) rfl (by kernel_rfl) (fun _ _ _ h => h) ⟨by rfl, ?y28_3⟩ (by assumption) ?r28_3
   case y28_3 => (intro w; go_simp; try with_reducible rfl)
   try simp only [Act.put, yA, yB, yC, yD, yE, yF]
   refine tkS (i := 29) (v := ?v29_3) rfl (by kernel_rfl) (fun _ _ _ h => h) ⟨by rfl, ?y29_3⟩ (by assumption) ?r29_3
   case y29_3 => (intro w hSw; go_split_ands; go_simp; try with_reducible rfl)
   try simp only [Act.put, yA, yB, yC, yD, yE, yF]
   refine tkP (i := 30) (v := ?v30_3) rfl (by kernel_rfl) (fun _ _ _ h => h) ⟨by rfl, ?y30_3⟩ (by assumption) ?r30_3
   case y30_3 => (intro w; go_simp; try with_reducible rfl)
   try simp only [Act.put, yA, yB, yC, yD, yE, yF]
   refine tkP (i := 31) (v := ?v31_3) rfl (by kernel_rfl) (fun _ _ _ h => h) ⟨by rfl, ?y31_3⟩ (by assumption) ?r31_3
   case y31_3 => (intro w; go_simp; try with_reducible rfl)
   try simp only [Act.put, yA, yB, yC, yD, yE, yF]
   refine tkP (i := 32) (v := ?v32_3) rfl (by kernel_rfl) (fun _ _ _ h => h) ⟨by rfl, ?y32_3⟩ (by assumption) ?r32_3
   case y32_3 => (intro w; go_simp; try with_reducible rfl)
   try simp only [Act.put, yA, yB, yC, yD, yE, yF]
   refine tkO (i := 33) rfl (by kernel_rfl) (fun K hK => ?_)
   go_simp
   refine hK.out _ _ (fun h => Bool.noConfusion (show true = false from h)) ?_
   clear hK K
   try simp only [Act.put, yA, yB, yC, yD, yE, yF]
   refine tkO (i := 34) rfl (by kernel_rfl) (fun K hK => ?_)
   go_simp
   refine hK.out _ _ (fun h => Bool.noConfusion (show true = false from h)) ?_
   clear hK K
   try simp only [Act.put, yA, yB, yC, yD, yE, yF]
   refine tkO (i := 35) rfl (by kernel_rfl) (fun K hK => ?_)
   go_simp
   refine hK.out _ _ (fun h => Bool.noConfusion (show true = false from h)) ?_
   clear hK K
   try simp only [Act.put, yA, yB, yC, yD, yE, yF]
   refine tkO (i := 36) rfl (by kernel_rfl) (fun K hK => ?_)
   go_simp
   refine hK.out _ _ (fun h => Bool.noConfusion (show true = false from h)) ?_
   clear hK K
   try simp only [Act.put, yA, yB, yC, yD, yE, yF]
   refine tkD (by kernel_rfl) ?_ _
   go_wp2_with (fail)
   go_ret2
   refine ⟨rfl, ?_⟩
   have hq := H_hend.out false negx _ rfl (fun _ => rfl) (by intro e; have := H_dr.out; have h := H_hlr.out; rw [e] at h; simp at h; omega) (by
    have e : lq = [] := List.eq_nil_of_length_eq_zero (by rw [H_hlq.out]; exact H_dq.out)
    have h := H_h3.out
    rw [e] at h ⊢
    exact (ival_quo_zero h.symm).symm) (ival_rem H_h6.out)
   exact hq.drew
 · have t1 : decide ((0 : Int) < (nq : Int)) = true := by simp; omega
   have t2 : decide ((0 : Int) < (nr : Int)) = false := by simp; omega
   have t3 : decide (0 < nq) = true := by simp; omega
   have t4 : decide (0 < nr) = false := by simp; omega
   have H_dq := hid dq; have H_dr := hid dr; clear dq dr
   go_wp2_with (fail)
   refine rgE (S := (fun (w' : World) => w'.cell? ⟨bz, 1, none⟩ = some (.slice qa nq qc) ∧ w'.cell? ⟨br, 1, none⟩ = some (.slice ra nr rc) ∧ w'.cell? ⟨bx, 0, none⟩ = some (.bool negx) ∧ w'.cell? ⟨bY, 0, none⟩ = some (.bool negy))) 33 (by kernel_rfl) (by exact ⟨u0, u1, u2, u3⟩) (fun hHeld => ?_)
   refine tkP (i := 0) (v := ?v0_4) rfl (by kernel_rfl) (fun _ _ _ h => h) ⟨by rfl, ?y0_4⟩ (by assumption) ?r0_4
   case y0_4 => (intro w; go_simp; try with_reducible rfl)
   try simp only [Act.put, yA, yB, yD, yE, yF]
   refine tkP (i := 1) (v := ?v1_4) rfl (by kernel_rfl) (fun _ _ _ h => h) ⟨by rfl, ?y1_4⟩ (by assumption) ?r1_4
   case y1_4 => (intro w; go_simp; try with_reducible rfl)
   try simp only [Act.put, yA, yB, yC, yD, yE, yF]
   refine tkP (i := 2) (v := ?v2_4) rfl (by kernel_rfl) (fun _ _ _ h => h) ⟨by rfl, ?y2_4⟩ (by assumption) ?r2_4
   case y2_4 => (intro w; go_simp; try with_reducible rfl)
   try simp only [Act.put, yA, yB, yC, yD, yE, yF]
   refine tkP (i := 3) (v := ?v3_4) rfl (by kernel_rfl) (fun _ _ _ h => h) ⟨by rfl, ?y3_4⟩ (by assumption) ?r3_4
   case y3_4 => (intro w; go_simp; try with_reducible rfl)
   try simp only [Act.put, yA, yB, yC, yD, yE, yF]
   refine tkP (i := 4) (v := ?v4_4) rfl (by kernel_rfl) (fun _ _ _ h => h) ⟨by rfl, ?y4_4⟩ (by assumption) ?r4_4
   case y4_4 => (intro w; go_simp; try with_reducible rfl)
   try simp only [Act.put, yA, yB, yC, yD, yE, yF]
   refine tkS (i := 5) (v := ?v5_4) rfl (by kernel_rfl) (fun _ _ _ h => h) ⟨by rfl, ?y5_4⟩ (by assumption) ?r5_4
   case y5_4 => (intro w hSw; go_split_ands; go_simp; try with_reducible rfl)
   try simp only [Act.put, yA, yB, yC, yD, yE, yF]
   refine tkP (i := 6) (v := ?v6_4) rfl (by kernel_rfl) (fun _ _ _ h => h) ⟨by rfl, ?y6_4⟩ (by assumption) ?r6_4
   case y6_4 => (intro w; go_simp; try with_reducible rfl)
   try simp only [Act.put, yA, yB, yC, yD, yE, yF]
   refine tkP (i := 7) (v := .bool true) rfl (by kernel_rfl) (fun _ _ _ h => h) ⟨by rfl, ?y7_4⟩ (by assumption) ?r7_4
   case y7_4 => (intro w; go_simp)
   try simp only [Act.put, yA, yB, yC, yD, yE, yF]
   refine tkP (i := 8) (v := .bool true) rfl (by kernel_rfl) (fun _ _ _ h => h) ⟨by rfl, ?y8_4⟩ (by assumption) ?r8_4
   case y8_4 => (intro w; go_simp)
   try simp only [Act.put, yA, yB, yC, yD, yE, yF]
   refine tkP (i := 9) (v := ?v9_4) rfl (by kernel_rfl) (fun _ _ _ h => h) ⟨by rfl, ?y9_4⟩ (by assumption) ?r9_4
   case y9_4 => (intro w; go_simp; try with_reducible rfl)
   try simp only [Act.put, yA, yB, yC, yD, yE, yF]
   refine tkP (i := 10) (v := ?v10_4) rfl (by kernel_rfl) (fun _ _ _ h => h) ⟨by rfl, ?y10_4⟩ (by assumption) ?r10_4
   case y10_4 => (intro w; go_simp; try with_reducible rfl)
   try simp only [Act.put, yA, yB, yC, yD, yE, yF]
   refine tkP (i := 11) (v := ?v11_4) rfl (by kernel_rfl) (fun _ _ _ h => h) ⟨by rfl, ?y11_4⟩ (by assumption) ?r11_4
   case y11_4 => (intro w; go_simp; try with_reducible rfl)
   try simp only [Act.put, yA, yB, yC, yD, yE, yF]
   refine tkS (i := 12) (v := ?v12_4) rfl (by kernel_rfl) (fun _ _ _ h => h) ⟨by rfl, ?y12_4⟩ (by assumption) ?r12_4
   case y12_4 => (intro w hSw; go_split_ands; go_simp; try with_reducible rfl)
   try simp only [Act.put, yA, yB, yC, yD, yE, yF]
   refine tkP (i := 13) (v := ?v13_4) rfl (by kernel_rfl) (fun _ _ _ h => h) ⟨by rfl, ?y13_4⟩ (by assumption) ?r13_4
   case y13_4 => (intro w; go_simp; try with_reducible rfl)
   try simp only [Act.put, yA, yB, yC, yD, yE, yF]
   refine tkP (i := 14) (v := ?v14_4) rfl (by kernel_rfl) (fun _ _ _ h => h) ⟨by rfl, ?y14_4⟩ (by assumption) ?r14_4
   case y14_4 => (intro w; go_simp; try with_reducible rfl)
   try simp only [Act.put, yA, yB, yC, yD, yE, yF]
   refine tkP (i := 15) (v := ?v15_4) rfl (by kernel_rfl) (fun _ _ _ h => h) ⟨by rfl, ?y15_4⟩ (by assumption) ?r15_4
   case y15_4 => (intro w; go_simp; try with_reducible rfl)
   try simp only [Act.put, yA, yB, yC, yD, yE, yF]
   refine tkS (i := 16) (v := ?v16_4) rfl (by kernel_rfl) (fun _ _ _ h => h) ⟨by rfl, ?y16_4⟩ (by assumption) ?r16_4
   case y16_4 => (intro w hSw; go_split_ands; go_simp; try with_reducible rfl)
   try simp only [Act.put, yA, yB, yC, yD, yE, yF]
   refine tkP (i := 17) (v := ?v17_4) rfl (by kernel_rfl) (fun _ _ _ h => h) ⟨by rfl, ?y17_4⟩ (by assumption) ?r17_4
   case y17_4 => (intro w; go_simp; try with_reducible rfl)
   try simp only [Act.put, yA, yB, yC, yD, yE, yF]
   refine tkP (i := 18) (v := ?v18_4) rfl (by kernel_rfl) (fun _ _ _ h => h) ⟨by rfl, ?y18_4⟩ (by assumption) ?r18_4
   case y18_4 => (intro w; go_simp; try with_reducible rfl)
   try simp only [Act.put, yA, yB, yC, yD, yE, yF]
   refine tkP (i := 19) (v := ?v19_4) rfl (by kernel_rfl) (fun _ _ _ h => h) ⟨by rfl, ?y19_4⟩ (by assumption) ?r19_4
   case y19_4 => (intro w; go_simp; try with_reducible rfl)
   try simp only [Act.put, yA, yB, yC, yD, yE, yF]
   refine tkP (i := 20) (v := ?v20_4) rfl (by kernel_rfl) (fun _ _ _ h => h) ⟨by rfl, ?y20_4⟩ (by assumption) ?r20_4
   case y20_4 => (intro w; go_simp; try with_reducible rfl)
   try simp only [Act.put, yA, yB, yC, yD, yE, yF]
   refine tkP (i := 21) (v := ?v21_4) rfl (by kernel_rfl) (fun _ _ _ h => h) ⟨by rfl, ?y21_4⟩ (by assumption) ?r21_4
   case y21_4 => (intro w; go_simp; try with_reducible rfl)
   try simp only [Act.put, yA, yB, yC, yD, yE, yF]
   refine tkS (i := 22) (v := ?v22_4) rfl (by kernel_rfl) (fun _ _ _ h => h) ⟨by rfl, ?y22_4⟩ (by assumption) ?r22_4
   case y22_4 => (intro w hSw; go_split_ands; go_simp; try with_reducible rfl)
   try simp only [Act.put, yA, yB, yC, yD, yE, yF]
   refine tkP (i := 23) (v := ?v23_4) rfl (by kernel_rfl) (fun _ _ _ h => h) ⟨by rfl, ?y23_4⟩ (by assumption) ?r23_4
   case y23_4 => (intro w; go_simp; try with_reducible rfl)
   try simp only [Act.put, yA, yB, yC, yD, yE, yF]
   refine tkP (i := 24) (v := .bool false) rfl (by kernel_rfl) (fun _ _ _ h => h) ⟨by rfl, ?y24_4⟩ (by assumption) ?r24_4
   case y24_4 => (intro w; go_simp)
   try simp only [Act.put, yA, yB, yC, yD, yE, yF]
   refine tkP (i := 25) (v := .bool false) rfl (by kernel_rfl) (fun _ _ _ h => h) ⟨by rfl, ?y25_4⟩ (by assumption) ?r25_4
   case y25_4 => (intro w; go_simp)
   try simp only [Act.put, yA, yB, yC, yD, yE, yF]
   refine tkU (i := 26) rfl (by kernel_rfl) (fun _ _ _ h => h) (by rfl) (by assumption) ?_
   try simp only [Act.put, yA, yB, yC, yD, yE, yF]
   refine tkU (i := 27) rfl (by kernel_rfl) (fun _ _ _ h => h) (by rfl) (by assumption) ?_
   try simp only [Act.put, yA, yB, yC, yD, yE, yF]
   refine tkU (i := 28) rfl (by kernel_rfl) (fun _ _ _ h => h) (by rfl) (by assumption) ?_
   try simp only [Act.put, yA, yB, yC, yD, yE, yF]
   refine tkU (i := 29) rfl (by kernel_rfl) (fun _ _ _ h => h) (by rfl) (by assumption) ?_
   try simp only [Act.put, yA, yB, yC, yD, yE, yF]
   refine tkP (i := 30) (v := ?v30_4) rfl (by kernel_rfl) (fun _ _ _ h => h) ⟨by rfl, ?y30_4⟩ (by assumption) ?r30_4
   case y30_4 => (intro w; go_simp; try with_reducible rfl)
   try simp only [Act.put, yA, yB, yC, yD, yE, yF]
   refine tkP (i := 31) (v := ?v31_4) rfl (by kernel_rfl) (fun _ _ _ h => h) ⟨by rfl, ?y31_4⟩ (by assumption) ?r31_4
   case y31_4 => (intro w; go_simp; try with_reducible rfl)
   try simp only [Act.put, yA, yB, yC, yD, yE, yF]
   refine tkP (i := 32) (v := ?v32_4) rfl (by kernel_rfl) (fun _ _ _ h => h) ⟨by rfl, ?y32_4⟩ (by assumption) ?r32_4
   case y32_4 => (intro w; go_simp; try with_reducible rfl)
   try simp only [Act.put, yA, yB, yC, yD, yE, yF]
   refine tkO (i := 33) rfl (by kernel_rfl) (fun K hK => ?_)
   go_simp
   refine hK.out _ _ (fun h => Bool.noConfusion (show true = false from h)) ?_
   clear hK K
   try simp only [Act.put, yA, yB, yC, yD, yE, yF]
   refine tkO (i := 34) rfl (by kernel_rfl) (fun K hK => ?_)
   go_simp
   refine hK.out _ _ (fun h => Bool.noConfusion (show true = false from h)) ?_
   clear hK K
   try simp only [Act.put, yA, yB, yC, yD, yE, yF]
   refine tkO (i := 35) rfl (by kernel_rfl) (fun K hK => ?_)
   go_simp
   refine hK.out _ _ (fun h => Bool.noConfusion (show true = false from h)) ?_
   clear hK K
   try simp only [Act.put, yA, yB, yC, yD, yE, yF]
   refine tkO (i := 36) rfl (by kernel_rfl) (fun K hK => ?_)
   go_simp
   refine hK.out _ _ (fun h => Bool.noConfusion (show true = false from h)) ?_
   clear hK K
   try simp only [Act.put, yA, yB, yC, yD, yE, yF]
   refine tkD (by kernel_rfl) ?_ _
   go_wp2_with (fail)
   go_ret2
   refine ⟨rfl, ?_⟩
   have hq := H_hend.out (negx != negy) false _ rfl (by intro e; have := H_dq.out; have h := H_hlq.out; rw [e] at h; simp at h; omega) (fun _ => rfl) (ival_quo H_h3.out) (by
    have e : lr = [] := List.eq_nil_of_length_eq_zero (by rw [H_hlr.out]; exact H_dr.out)
    have h := H_h6.out
    rw [e] at h ⊢
    exact (ival_rem_zero h.symm).symm)
   exact hq.drew
 · have t1 : decide ((0 : Int) < (nq : Int)) = true := by simp; omega
   have t2 : decide ((0 : Int) < (nr : Int)) = true := by simp; omega
   have t3 : decide (0 < nq) = true := by simp; omega
   have t4 : decide (0 < nr) = true := by simp; omega
   have H_dq := hid dq; have H_dr := hid dr; clear dq dr
   go_wp2_with (fail)
   refine rgE (S := (fun (w' : World) => w'.cell? ⟨bz, 1, none⟩ = some (.slice qa nq qc) ∧ w'.cell? ⟨br, 1, none⟩ = some (.slice ra nr rc) ∧ w'.cell? ⟨bx, 0, none⟩ = some (.bool negx) ∧ w'.cell? ⟨bY, 0, none⟩ = some (.bool negy))) 33 (by kernel_rfl) (by exact ⟨u0, u1, u2, u3⟩) (fun hHeld => ?_)
   refine tkP (i := 0) (v := ?v0_5) rfl (by kernel_rfl) (fun _ _ _ h => h) ⟨by rfl, ?y0_5⟩ (by assumption) ?r0_5
   case y0_5 => (intro w; go_simp; try with_reducible rfl)
   try simp only [Act.put, yA, yB, yD, yE, yF]
   refine tkP (i := 1) (v := ?v1_5) rfl (by kernel_rfl) (fun _ _ _ h => h) ⟨by rfl, ?y1_5⟩ (by assumption) ?r1_5
   case y1_5 => (intro w; go_simp; try with_reducible rfl)
   try simp only [Act.put, yA, yB, yC, yD, yE, yF]
   refine tkP (i := 2) (v := ?v2_5) rfl (by kernel_rfl) (fun _ _ _ h => h) ⟨by rfl, ?y2_5⟩ (by assumption) ?r2_5
   case y2_5 => (intro w; go_simp; try with_reducible rfl)
   try simp only [Act.put, yA, yB, yC, yD, yE, yF]
   refine tkP (i := 3) (v := ?v3_5) rfl (by kernel_rfl) (fun _ _ _ h => h) ⟨by rfl, ?y3_5⟩ (by assumption) ?r3_5
   case y3_5 => (intro w; go_simp; try with_reducible rfl)
   try simp only [Act.put, yA, yB, yC, yD, yE, yF]
   refine tkP (i := 4) (v := ?v4_5) rfl (by kernel_rfl) (fun _ _ _ h => h) ⟨by rfl, ?y4_5⟩ (by assumption) ?r4_5
   case y4_5 => (intro w; go_simp; try with_reducible rfl)
   try simp only [Act.put, yA, yB, yC, yD, yE, yF]
   refine tkS (i := 5) (v := ?v5_5) rfl (by kernel_rfl) (fun _ _ _ h => h) ⟨by rfl, ?y5_5⟩ (by assumption) ?r5_5
   case y5_5 => (intro w hSw; go_split_ands; go_simp; try with_reducible rfl)
   try simp only [Act.put, yA, yB, yC, yD, yE, yF]
   refine tkP (i := 6) (v := ?v6_5) rfl (by kernel_rfl) (fun _ _ _ h => h) ⟨by rfl, ?y6_5⟩ (by assumption) ?r6_5
   case y6_5 => (intro w; go_simp; try with_reducible rfl)
   try simp only [Act.put, yA, yB, yC, yD, yE, yF]
   refine tkP (i := 7) (v := .bool true) rfl (by kernel_rfl) (fun _ _ _ h => h) ⟨by rfl, ?y7_5⟩ (by assumption) ?r7_5
   case y7_5 => (intro w; go_simp)
   try simp only [Act.put, yA, yB, yC, yD, yE, yF]
   refine tkP (i := 8) (v := .bool true) rfl (by kernel_rfl) (fun _ _ _ h => h) ⟨by rfl, ?y8_5⟩ (by assumption) ?r8_5
   case y8_5 => (intro w; go_simp)
   try simp only [Act.put, yA, yB, yC, yD, yE, yF]
   refine tkP (i := 9) (v := ?v9_5) rfl (by kernel_rfl) (fun _ _ _ h => h) ⟨by rfl, ?y9_5⟩ (by assumption) ?r9_5
   case y9_5 => (intro w; go_simp; try with_reducible rfl)
   try simp only [Act.put, yA, yB, yC, yD, yE, yF]
   refine tkP (i := 10) (v := ?v10_5) rfl (by kernel_rfl) (fun _ _ _ h => h) ⟨by rfl, ?y10_5⟩ (by assumption) ?r10_5
   case y10_5 => (intro w; go_simp; try with_reducible rfl)
   try simp only [Act.put, yA, yB, yC, yD, yE, yF]
   refine tkP (i := 11) (v := ?v11_5) rfl (by kernel_rfl) (fun _ _ _ h => h) ⟨by rfl, ?y11_5⟩ (by assumption) ?r11_5
   case y11_5 => (intro w; go_simp; try with_reducible rfl)
   try simp only [Act.put, yA, yB, yC, yD, yE, yF]
   refine tkS (i := 12) (v := ?v12_5) rfl (by kernel_rfl) (fun _ _ _ h => h) ⟨by rfl, ?y12_5⟩ (by assumption) ?r12_5
   case y12_5 => (intro w hSw; go_split_ands; go_simp; try with_reducible rfl)
   try simp only [Act.put, yA, yB, yC, yD, yE, yF]
   refine tkP (i := 13) (v := ?v13_5) rfl (by kernel_rfl) (fun _ _ _ h => h) ⟨by rfl, ?y13_5⟩ (by assumption) ?r13_5
   case y13_5 => (intro w; go_simp; try with_reducible rfl)
   try simp only [Act.put, yA, yB, yC, yD, yE, yF]
   refine tkP (i := 14) (v := ?v14_5) rfl (by kernel_rfl) (fun _ _ _ h => h) ⟨by rfl, ?y14_5⟩ (by assumption) ?r14_5
   case y14_5 => (intro w; go_simp; try with_reducible rfl)
   try simp only [Act.put, yA, yB, yC, yD, yE, yF]
   refine tkP (i := 15) (v := ?v15_5) rfl (by kernel_rfl) (fun _ _ _ h => h) ⟨by rfl, ?y15_5⟩ (by assumption) ?r15_5
   case y15_5 => (intro w; go_simp; try with_reducible rfl)
   try simp only [Act.put, yA, yB, yC, yD, yE, yF]
   refine tkS (i := 16) (v := ?v16_5) rfl (by kernel_rfl) (fun _ _ _ h => h) ⟨by rfl, ?y16_5⟩ (by assumption) ?r16_5
   case y16_5 => (intro w hSw; go_split_ands; go_simp; try with_reducible rfl)
   try simp only [Act.put, yA, yB, yC, yD, yE, yF]
   refine tkP (i := 17) (v := ?v17_5) rfl (by kernel_rfl) (fun _ _ _ h => h) ⟨by rfl, ?y17_5⟩ (by assumption) ?r17_5
   case y17_5 => (intro w; go_simp; try with_reducible rfl)
   try simp only [Act.put, yA, yB, yC, yD, yE, yF]
   refine tkP (i := 18) (v := ?v18_5) rfl (by kernel_rfl) (fun _ _ _ h => h) ⟨by rfl, ?y18_5⟩ (by assumption) ?r18_5
   case y18_5 => (intro w; go_simp; try with_reducible rfl)
   try simp only [Act.put, yA, yB, yC, yD, yE, yF]
   refine tkP (i := 19) (v := ?v19_5) rfl (by kernel_rfl) (fun _ _ _ h => h) ⟨by rfl, ?y19_5⟩ (by assumption) ?r19_5
   case y19_5 => (intro w; go_simp; try with_reducible rfl)
   try simp only [Act.put, yA, yB, yC, yD, yE, yF]
   refine tkP (i := 20) (v := ?v20_5) rfl (by kernel_rfl) (fun _ _ _ h => h) ⟨by rfl, ?y20_5⟩ (by assumption) ?r20_5
   case y20_5 => (intro w; go_simp; try with_reducible rfl)
   try simp only [Act.put, yA, yB, yC, yD, yE, yF]
   refine tkP (i := 21) (v := ?v21_5) rfl (by kernel_rfl) (fun _ _ _ h => h) ⟨by rfl, ?y21_5⟩ (by assumption) ?r21_5
   case y21_5 => (intro w; go_simp; try with_reducible rfl)
   try simp only [Act.put, yA, yB, yC, yD, yE, yF]
   refine tkS (i := 22) (v := ?v22_5) rfl (by kernel_rfl) (fun _ _ _ h => h) ⟨by rfl, ?y22_5⟩ (by assumption) ?r22_5
   case y22_5 => (intro w hSw; go_split_ands; go_simp; try with_reducible rfl)
   try simp only [Act.put, yA, yB, yC, yD, yE, yF]
   refine tkP (i := 23) (v := ?v23_5) rfl (by kernel_rfl) (fun _ _ _ h => h) ⟨by rfl, ?y23_5⟩ (by assumption) ?r23_5
   case y23_5 => (intro w; go_simp; try with_reducible rfl)
   try simp only [Act.put, yA, yB, yC, yD, yE, yF]
   refine tkP (i := 24) (v := .bool true) rfl (by kernel_rfl) (fun _ _ _ h => h) ⟨by rfl, ?y24_5⟩ (by assumption) ?r24_5
   case y24_5 => (intro w; go_simp)
   try simp only [Act.put, yA, yB, yC, yD, yE, yF]
   refine tkP (i := 25) (v := .bool true) rfl (by kernel_rfl) (fun _ _ _ h => h) ⟨by rfl, ?y25_5⟩ (by assumption) ?r25_5
   case y25_5 => (intro w; go_simp)
   try simp only [Act.put, yA, yB, yC, yD, yE, yF]
   refine tkP (i := 26) (v := ?v26_5) rfl (by kernel_rfl) (fun _ _ _ h => h) ⟨by rfl, ?y26_5⟩ (by assumption) ?r26_5
   case y26_5 => (intro w; go_simp; try with_reducible rfl)
   try simp only [Act.put, yA, yB, yC, yD, yE, yF]
   refine tkP (i := 27) (v := ?v27_5) rfl (by kernel_rfl) (fun _ _ _ h => h) ⟨by rfl, ?y27_5⟩ (by assumption) ?r27_5
   case y27_5 => (intro w; go_simp; try with_reducible rfl)
   try simp only [Act.put, yA, yB, yC, yD, yE, yF]
   refine tkP (i := 28) (v := ?v28_5) rfl (by kernel_rfl) (fun _ _ _ h => h) ⟨by rfl, ?y28_5⟩ (by assumption) ?r28_5
   case y28_5 => (intro w; go_simp; try with_reducible rfl)
   try simp only [Act.put, yA, yB, yC, yD, yE, yF]
   refine tkS (i := 29) (v := ?v29_5) rfl (by kernel_rfl) (fun _ _ _ h => h) ⟨by rfl, ?y29_5⟩ (by assumption) ?r29_5
   case y29_5 => (intro w hSw; go_split_ands; go_simp; try with_reducible rfl)
   try simp only [Act.put, yA, yB, yC, yD, yE, yF]
   refine tkP (i := 30) (v := ?v30_5) rfl (by kernel_rfl) (fun _ _ _ h => h) ⟨by rfl, ?y30_5⟩ (by assumption) ?r30_5
   case y30_5 => (intro w; go_simp; try with_reducible rfl)
   try simp only [Act.put, yA, yB, yC, yD, yE, yF]
   refine tkP (i := 31) (v := ?v31_5) rfl (by kernel_rfl) (fun _ _ _ h => h) ⟨by rfl, ?y31_5⟩ (by assumption) ?r31_5
   case y31_5 => (intro w; go_simp; try with_reducible rfl)
   try simp only [Act.put, yA, yB, yC, yD, yE, yF]
   refine tkP (i := 32) (v := ?v32_5) rfl (by kernel_rfl) (fun _ _ _ h => h) ⟨by rfl, ?y32_5⟩ (by assumption) ?r32_5
   case y32_5 => (intro w; go_simp; try with_reducible rfl)
   try simp only [Act.put, yA, yB, yC, yD, yE, yF]
   refine tkO (i := 33) rfl (by kernel_rfl) (fun K hK => ?_)
   go_simp
   refine hK.out _ _ (fun h => Bool.noConfusion (show true = false from h)) ?_
   clear hK K
   try simp only [Act.put, yA, yB, yC, yD, yE, yF]
   refine tkO (i := 34) rfl (by kernel_rfl) (fun K hK => ?_)
   go_simp
   refine hK.out _ _ (fun h => Bool.noConfusion (show true = false from h)) ?_
   clear hK K
   try simp only [Act.put, yA, yB, yC, yD, yE, yF]
   refine tkO (i := 35) rfl (by kernel_rfl) (fun K hK => ?_)
   go_simp
   refine hK.out _ _ (fun h => Bool.noConfusion (show true = false from h)) ?_
   clear hK K
   try simp only [Act.put, yA, yB, yC, yD, yE, yF]
   refine tkO (i := 36) rfl (by kernel_rfl) (fun K hK => ?_)
   go_simp
   refine hK.out _ _ (fun h => Bool.noConfusion (show true = false from h)) ?_
   clear hK K
   try simp only [Act.put, yA, yB, yC, yD, yE, yF]
   refine tkD (by kernel_rfl) ?_ _
   go_wp2_with (fail)
   go_ret2
   refine ⟨rfl, ?_⟩
   have hq := H_hend.out (negx != negy) negx _ rfl (by intro e; have := H_dq.out; have h := H_hlq.out; rw [e] at h; simp at h; omega) (by intro e; have := H_dr.out; have h := H_hlr.out; rw [e] at h; simp at h; omega) (ival_quo H_h3.out) (ival_rem H_h6.out)
   exact hq.drew

end Go.Proofs.YtllencgncinphaaGreatDoor
