/- big: Int.QuoRem by a number of up to three words; bint.quoRem. -/
import Derived.Test.YtjjolcjeiogdmabGreatDoorK24
import Derived.Test.YtjjolcjeiogdmabGreatDoorK25
import Derived.Test.YtjjolcjeiogdmabGreatDoorK32
namespace Go.Proofs.YtjjolcjeiogdmabGreatDoor
open Go.RowKit

set_option maxRecDepth 20000 in
set_option maxHeartbeats 4000000 in
theorem QuoRem_all (bz bx bY br : Nat) (vz vx vy vr : Value) (nz nx y nr : Nat) (w : World) (hG : Glob w) (hn : nx < wpow 39) (hy0 : 0 < y) (hyb : y < wpow 3) (hne : bz ≠ br)
    (hz : BI w bz vz nz) (hx : BI w bx vx nx) (hy : BI w bY vy y) (hr : BI w br vr nr) (hs : Sep vz vx) (ha : ∀ k, vz.ownBlock = some k → vr.ownBlock ≠ some k)
    (hax : ∀ k, vr.ownBlock = some k → vx.ownBlock ≠ some k) (hay : ∀ k, vr.ownBlock = some k → vy.ownBlock ≠ some k) :
    Calls Tryz.prog 84 #[.pointer (some ⟨bz, 0, none⟩), .pointer (some ⟨bx, 0, none⟩), .pointer (some ⟨bY, 0, none⟩), .pointer (some ⟨br, 0, none⟩)] w
      (fun e w' => e = .returned (.tuple #[.pointer (some ⟨bz, 0, none⟩), .pointer (some ⟨br, 0, none⟩)]) ∧ QRSet w bz br vz vr (nx / y) (nx % y) w') := by
  obtain ⟨lz, hz, rfl⟩ := hz
  obtain ⟨lx, hx, rfl⟩ := hx
  obtain ⟨ly, hy, hly⟩ := hy
  obtain ⟨lr0, hr, rfl⟩ := hr
  have hlen : lx.length ≤ 39 := hx.norm.len_le hn
  have hlen2 : ly.length ≤ 3 := hy.norm.len_le (by rw [hly]; exact hyb)
  have hlen3 : 0 < ly.length := by
    rcases Nat.eq_zero_or_pos ly.length with h | h
    · rw [List.eq_nil_of_length_eq_zero h] at hly; simp [val] at hly; omega
    · exact h
  have hdiv : Calls Tryz.prog 98 #[vz, .pointer none, vr, vx, vy] w.drew (QRRet w.drew vz vr (val lx) (val ly)) :=
    div_all vz vr vx vy lz lr0 lx ly _ (hG.drewN 1) hlen3 hlen2 (by omega) hz.nat.drew hr.nat.drew hx.nat.drew hx.norm hy.nat.drew hy.norm hs ha hax hay
  rw [hly] at hdiv
  have nz : ¬ (vz.ownBlock = some bz ∨ vr.ownBlock = some bz) := fun e => e.elim (fun e => IntIs.ne hz.str hz.nat e rfl) (fun e => IntIs.ne hz.str hr.nat e rfl)
  have nx : ¬ (vz.ownBlock = some bx ∨ vr.ownBlock = some bx) := fun e => e.elim (fun e => IntIs.ne hx.str hz.nat e rfl) (fun e => IntIs.ne hx.str hr.nat e rfl)
  have ny : ¬ (vz.ownBlock = some bY ∨ vr.ownBlock = some bY) := fun e => e.elim (fun e => IntIs.ne hy.str hz.nat e rfl) (fun e => IntIs.ne hy.str hr.nat e rfl)
  have nr : ¬ (vz.ownBlock = some br ∨ vr.ownBlock = some br) := fun e => e.elim (fun e => IntIs.ne hr.str hz.nat e rfl) (fun e => IntIs.ne hr.str hr.nat e rfl)
  have cx1 : w.cell? ⟨bx, 1, none⟩ = _ := hx.str.c1
  have cy1 : w.cell? ⟨bY, 1, none⟩ = _ := hy.str.c1
  have cz1 : w.cell? ⟨bz, 1, none⟩ = _ := hz.str.c1
  have cr1 : w.cell? ⟨br, 1, none⟩ = _ := hr.str.c1
  clear hn hy0 hyb hlen hlen2 hlen3 hax hay hly hG
  have H_hz := Lib.hid hz; clear hz
  have H_hx := Lib.hid hx; clear hx
  have H_hy := Lib.hid hy; clear hy
  have H_hr := Lib.hid hr; clear hr
  have H_hs := Lib.hid hs; clear hs
  have H_ha := Lib.hid ha; clear ha
  have H_hdiv := Lib.hid hdiv; clear hdiv
  have H_nz := Lib.hid nz; clear nz
  have H_nx := Lib.hid nx; clear nx
  have H_ny := Lib.hid ny; clear ny
  have H_nr := Lib.hid nr; clear nr
  have H_hne := Lib.hid hne; clear hne
  go_enter Tryz.func84, Tryz.ntmps84
  go_wp2_with (fail)
  refine wp_region_E (S := fun (w' : World) => w'.cell? ⟨bz, 1, none⟩ = some vz ∧ w'.cell? ⟨br, 1, none⟩ = some vr ∧ w'.cell? ⟨bx, 1, none⟩ = some vx ∧ w'.cell? ⟨bY, 1, none⟩ = some vy) 24 (by kernel_rfl) (by exact ⟨cz1, cr1, cx1, cy1⟩) (fun hHeld => ?_)
  refine wpAnyE_takeP (i := 0) (v := ?v0_1) rfl (by kernel_rfl) (fun _ _ _ h => h) ⟨by rfl, ?y0_1⟩ (by assumption) ?r0_1
  case y0_1 => (intro w; go_simp; try with_reducible rfl)
  try simp only [Act.put, yA, yB, yD, yE, yF]
  refine wpAnyE_takeP (i := 1) (v := ?v1_2) rfl (by kernel_rfl) (fun _ _ _ h => h) ⟨by rfl, ?y1_2⟩ (by assumption) ?r1_2
  case y1_2 => (intro w; go_simp; try with_reducible rfl)
  try simp only [Act.put, yA, yB, yC, yD, yE, yF]
  refine wpAnyE_takeP (i := 2) (v := ?v2_3) rfl (by kernel_rfl) (fun _ _ _ h => h) ⟨by rfl, ?y2_3⟩ (by assumption) ?r2_3
  case y2_3 => (intro w; go_simp; try with_reducible rfl)
  try simp only [Act.put, yA, yB, yC, yD, yE, yF]
  refine wpAnyE_takeP (i := 3) (v := ?v3_4) rfl (by kernel_rfl) (fun _ _ _ h => h) ⟨by rfl, ?y3_4⟩ (by assumption) ?r3_4
  case y3_4 => (intro w; go_simp; try with_reducible rfl)
  try simp only [Act.put, yA, yB, yC, yD, yE, yF]
  refine wpAnyE_takeP (i := 4) (v := ?v4_5) rfl (by kernel_rfl) (fun _ _ _ h => h) ⟨by rfl, ?y4_5⟩ (by assumption) ?r4_5
  case y4_5 => (intro w; go_simp; try with_reducible rfl)
  try simp only [Act.put, yA, yB, yC, yD, yE, yF]
  refine wpAnyE_takeD (i := 5) (v := ?v5_6) rfl (by kernel_rfl) (fun _ _ _ h => h) ⟨by rfl, ?y5_6⟩ (by assumption) ?r5_6
  case y5_6 => (intro w hSw; go_split_ands; go_simp; try with_reducible rfl)
  try simp only [Act.put, yA, yB, yC, yD, yE, yF]
  refine wpAnyE_takeP (i := 6) (v := ?v6_7) rfl (by kernel_rfl) (fun _ _ _ h => h) ⟨by rfl, ?y6_7⟩ (by assumption) ?r6_7
  case y6_7 => (intro w; go_simp; try with_reducible rfl)
  try simp only [Act.put, yA, yB, yC, yD, yE, yF]
  refine wpAnyE_takeP (i := 7) (v := ?v7_8) rfl (by kernel_rfl) (fun _ _ _ h => h) ⟨by rfl, ?y7_8⟩ (by assumption) ?r7_8
  case y7_8 => (intro w; go_simp; try with_reducible rfl)
  try simp only [Act.put, yA, yB, yC, yD, yE, yF]
  refine wpAnyE_takeP (i := 8) (v := ?v8_9) rfl (by kernel_rfl) (fun _ _ _ h => h) ⟨by rfl, ?y8_9⟩ (by assumption) ?r8_9
  case y8_9 => (intro w; go_simp; try with_reducible rfl)
  try simp only [Act.put, yA, yB, yC, yD, yE, yF]
  refine wpAnyE_takeD (i := 9) (v := ?v9_10) rfl (by kernel_rfl) (fun _ _ _ h => h) ⟨by rfl, ?y9_10⟩ (by assumption) ?r9_10
  case y9_10 => (intro w hSw; go_split_ands; go_simp; try with_reducible rfl)
  try simp only [Act.put, yA, yB, yC, yD, yE, yF]
  refine wpAnyE_takeP (i := 10) (v := ?v10_11) rfl (by kernel_rfl) (fun _ _ _ h => h) ⟨by rfl, ?y10_11⟩ (by assumption) ?r10_11
  case y10_11 => (intro w; go_simp; try with_reducible rfl)
  try simp only [Act.put, yA, yB, yC, yD, yE, yF]
  refine wpAnyE_takeP (i := 11) (v := ?v11_12) rfl (by kernel_rfl) (fun _ _ _ h => h) ⟨by rfl, ?y11_12⟩ (by assumption) ?r11_12
  case y11_12 => (intro w; go_simp; try with_reducible rfl)
  try simp only [Act.put, yA, yB, yC, yD, yE, yF]
  refine wpAnyE_takeP (i := 12) (v := ?v12_13) rfl (by kernel_rfl) (fun _ _ _ h => h) ⟨by rfl, ?y12_13⟩ (by assumption) ?r12_13
  case y12_13 => (intro w; go_simp; try with_reducible rfl)
  try simp only [Act.put, yA, yB, yC, yD, yE, yF]
  refine wpAnyE_takeD (i := 13) (v := ?v13_14) rfl (by kernel_rfl) (fun _ _ _ h => h) ⟨by rfl, ?y13_14⟩ (by assumption) ?r13_14
  case y13_14 => (intro w hSw; go_split_ands; go_simp; try with_reducible rfl)
  try simp only [Act.put, yA, yB, yC, yD, yE, yF]
  refine wpAnyE_takeP (i := 14) (v := ?v14_15) rfl (by kernel_rfl) (fun _ _ _ h => h) ⟨by rfl, ?y14_15⟩ (by assumption) ?r14_15
  case y14_15 => (intro w; go_simp; try with_reducible rfl)
  try simp only [Act.put, yA, yB, yC, yD, yE, yF]
  refine wpAnyE_takeP (i := 15) (v := ?v15_16) rfl (by kernel_rfl) (fun _ _ _ h => h) ⟨by rfl, ?y15_16⟩ (by assumption) ?r15_16
  case y15_16 => (intro w; go_simp; try with_reducible rfl)
  try simp only [Act.put, yA, yB, yC, yD, yE, yF]
  refine wpAnyE_takeP (i := 16) (v := ?v16_17) rfl (by kernel_rfl) (fun _ _ _ h => h) ⟨by rfl, ?y16_17⟩ (by assumption) ?r16_17
  case y16_17 => (intro w; go_simp; try with_reducible rfl)
  try simp only [Act.put, yA, yB, yC, yD, yE, yF]
  refine wpAnyE_takeD (i := 17) (v := ?v17_18) rfl (by kernel_rfl) (fun _ _ _ h => h) ⟨by rfl, ?y17_18⟩ (by assumption) ?r17_18
  case y17_18 => (intro w hSw; go_split_ands; go_simp; try with_reducible rfl)
  try simp only [Act.put, yA, yB, yC, yD, yE, yF]
  refine wpAnyE_one (i := 18) rfl (by kernel_rfl) (fun K hK => ?_)
  go_simp
  refine H_hdiv.out.mono ?_
  rintro e w1 ⟨qv, lq, rv, lr, rfl, hqa, hqn, hqv, hra, hrn, hrv, hk, hqo, hro, hqr⟩
  have hk := hk.of_drew
  have kx1 := (H_hx.out.str.keep hk H_nx.out).c1
  have ky1 := (H_hy.out.str.keep hk H_ny.out).c1
  have hst : QS w w1 bz br bx bY vz vr vz vr qv rv lq lr := ⟨H_hz.out.str.keep hk H_nz.out, H_hr.out.str.keep hk H_nr.out, (H_hx.out.str.keep hk H_nx.out).c0, (H_hy.out.str.keep hk H_ny.out).c0, hqa, hra, hk.mono (fun _ _ h => .inr (.inr h))⟩
  have hqo : ∀ k, qv.ownBlock = some k → vz.ownBlock = some k ∨ w.heap.size ≤ k := hqo
  have hro : ∀ k, rv.ownBlock = some k → vr.ownBlock = some k ∨ w.heap.size ≤ k := hro
  have hqz : ∀ k, qv.ownBlock = some k → k ≠ bz ∧ k ≠ br := fun k h => (hqo k h).elim (fun h => ⟨fun e => H_nz.out (by subst e; exact .inl h), fun e => H_nr.out (by subst e; exact .inl h)⟩) (fun h => ⟨by have := H_hz.out.str.lt; omega, by have := H_hr.out.str.lt; omega⟩)
  have hrz : ∀ k, rv.ownBlock = some k → k ≠ bz ∧ k ≠ br := fun k h => (hro k h).elim (fun h => ⟨fun e => H_nz.out (by subst e; exact .inr h), fun e => H_nr.out (by subst e; exact .inr h)⟩) (fun h => ⟨by have := H_hz.out.str.lt; omega, by have := H_hr.out.str.lt; omega⟩)
  have hqo : ∀ k, qv.ownBlock = some k → vz.ownBlock = some k ∨ w.heap.size ≤ k := hqo
  have hro : ∀ k, rv.ownBlock = some k → vr.ownBlock = some k ∨ w.heap.size ≤ k := hro
  have kz1 : World.cell? _ ⟨bz, 1, none⟩ = _ := hst.z.c1
  have kr1 : World.cell? _ ⟨br, 1, none⟩ = _ := hst.r.c1
  have kzf : World.frozen? _ ⟨bz, 1, none⟩ = _ := hst.z.f1
  obtain ⟨qa, qc, hqf⟩ := hqa.form; obtain ⟨ra, rc, hrf⟩ := hra.form; generalize hnq : lq.length = nq at *; generalize hnr : lr.length = nr at *; subst hqf hrf; have H_hnq := Lib.hid hnq; have H_hnr := Lib.hid hnr; clear hnq hnr; have H_hqn := Lib.hid hqn; have H_hqv := Lib.hid hqv; have H_hrn := Lib.hid hrn; have H_hrv := Lib.hid hrv; have H_hqo := Lib.hid hqo; have H_hro := Lib.hid hro; have H_hqr := Lib.hid hqr; have H_hqz := Lib.hid hqz; have H_hrz := Lib.hid hrz; have H_s1 := Lib.hid hst; clear hqn hqv hqa hra hrn hrv hqo hro hqr hqz hrz hst hk
  clear cz1 cr1 cx1 cy1
  go_wp2_with (fail)
  have hHeldB : (fun (w' : World) => w'.cell? ⟨bz, 1, none⟩ = some vz ∧ w'.cell? ⟨br, 1, none⟩ = some vr ∧ w'.cell? ⟨bx, 1, none⟩ = some vx ∧ w'.cell? ⟨bY, 1, none⟩ = some vy) _ := ⟨kz1, kr1, kx1, ky1⟩
  refine hK.out _ _ (fun _ => hHeldB) ?_
  clear hK K
  try simp only [Act.put, yA, yB, yC, yD, yE, yF]
  refine wpAnyE_takeP (i := 19) (v := ?v19_19) rfl (by kernel_rfl) (fun _ _ _ h => h) ⟨by rfl, ?y19_19⟩ (by assumption) ?r19_19
  case y19_19 => (intro w; go_simp; try with_reducible rfl)
  try simp only [Act.put, yA, yB, yC, yD, yE, yF]
  refine wpAnyE_takeP (i := 20) (v := ?v20_20) rfl (by kernel_rfl) (fun _ _ _ h => h) ⟨by rfl, ?y20_20⟩ (by assumption) ?r20_20
  case y20_20 => (intro w; go_simp; try with_reducible rfl)
  try simp only [Act.put, yA, yB, yC, yD, yE, yF]
  refine wpAnyE_takeP (i := 21) (v := ?v21_21) rfl (by kernel_rfl) (fun _ _ _ h => h) ⟨by rfl, ?y21_21⟩ (by assumption) ?r21_21
  case y21_21 => (intro w; go_simp; try with_reducible rfl)
  try simp only [Act.put, yA, yB, yC, yD, yE, yF]
  refine wpAnyE_takeP (i := 22) (v := ?v22_22) rfl (by kernel_rfl) (fun _ _ _ h => h) ⟨by rfl, ?y22_22⟩ (by assumption) ?r22_22
  case y22_22 => (intro w; go_simp; try with_reducible rfl)
  try simp only [Act.put, yA, yB, yC, yD, yE, yF]
  refine wpAnyE_takeP (i := 23) (v := ?v23_23) rfl (by kernel_rfl) (fun _ _ _ h => h) ⟨by rfl, ?y23_23⟩ (by assumption) ?r23_23
  case y23_23 => (intro w; go_simp; try with_reducible rfl)
  try simp only [Act.put, yA, yB, yC, yD, yE, yF]
  refine wpAnyE_one (i := 24) rfl (by kernel_rfl) (fun K hK => ?_)
  go_simp
  refine hK.out _ _ (fun h => Bool.noConfusion (show true = false from h)) ?_
  clear hK K
  try simp only [Act.put, yA, yB, yC, yD, yE, yF]
  have H_s2 := Lib.hid (H_s1.out.z1 H_hne.out H_hqz.out H_hrz.out (Value.slice qa nq qc))
  clear kz1 kr1 kx1 ky1 kzf hHeldB hHeld
  generalize w1.setCell ⟨bz, 1, none⟩ (Value.slice qa nq qc) = W2 at *
  have kr1 : World.cell? _ ⟨br, 1, none⟩ = _ := H_s2.out.r.c1
  have krf : World.frozen? _ ⟨br, 1, none⟩ = _ := H_s2.out.r.f1
  refine wpAnyE_one (i := 25) rfl (by kernel_rfl) (fun K hK => ?_)
  go_simp
  refine hK.out _ _ (fun h => Bool.noConfusion (show true = false from h)) ?_
  clear hK K
  try simp only [Act.put, yA, yB, yC, yD, yE, yF]
  refine wpAnyE_one (i := 26) rfl (by kernel_rfl) (fun K hK => ?_)
  go_simp
  refine hK.out _ _ (fun h => Bool.noConfusion (show true = false from h)) ?_
  clear hK K
  try simp only [Act.put, yA, yB, yC, yD, yE, yF]
  refine wpAnyE_one (i := 27) rfl (by kernel_rfl) (fun K hK => ?_)
  go_simp
  refine hK.out _ _ (fun h => Bool.noConfusion (show true = false from h)) ?_
  clear hK K
  try simp only [Act.put, yA, yB, yC, yD, yE, yF]
  refine wpAnyE_done (by kernel_rfl) ?_ _
  have H_s3 := Lib.hid (H_s2.out.r1 H_hne.out H_hqz.out H_hrz.out (Value.slice ra nr rc))
  clear kr1 krf
  generalize W2.setCell ⟨br, 1, none⟩ (Value.slice ra nr rc) = W3 at *
  skip
  have kz0 := H_s3.out.z.c0
  have kz1 : World.cell? _ ⟨bz, 1, none⟩ = _ := H_s3.out.z.c1
  have kzf0 := H_s3.out.z.f0
  have kzf : World.frozen? _ ⟨bz, 1, none⟩ = _ := H_s3.out.z.f1
  have kr0 := H_s3.out.r.c0
  have kr1 : World.cell? _ ⟨br, 1, none⟩ = _ := H_s3.out.r.c1
  have krf0 := H_s3.out.r.f0
  have krf : World.frozen? _ ⟨br, 1, none⟩ = _ := H_s3.out.r.f1
  have kx0 := H_s3.out.x
  have ky0 := H_s3.out.y
  go_wp2_with (fail)
  have dq : (0 < nq ∨ nq = 0) := by omega
  have dr : (0 < nr ∨ nr = 0) := by omega
  rcases dq with dq | dq <;> rcases dr with dr | dr
  · have t1 : decide (0 < nq) = true := by simp; omega
    have t2 : decide (0 < nr) = true := by simp; omega
    clear dq dr
    refine wp_region_E (S := fun (w' : World) => w'.cell? ⟨bz, 1, none⟩ = some (.slice qa nq qc) ∧ w'.cell? ⟨br, 1, none⟩ = some (.slice ra nr rc) ∧ w'.cell? ⟨bx, 0, none⟩ = some (.bool false) ∧ w'.cell? ⟨bY, 0, none⟩ = some (.bool false)) 33 (by kernel_rfl) (by exact ⟨kz1, kr1, kx0, ky0⟩) (fun hHeld => ?_)
    refine wpAnyE_takeP (i := 0) (v := ?v0_24) rfl (by kernel_rfl) (fun _ _ _ h => h) ⟨by rfl, ?y0_24⟩ (by assumption) ?r0_24
    case y0_24 => (intro w; go_simp; try with_reducible rfl)
    try simp only [Act.put, yA, yB, yD, yE, yF]
    refine wpAnyE_takeP (i := 1) (v := ?v1_25) rfl (by kernel_rfl) (fun _ _ _ h => h) ⟨by rfl, ?y1_25⟩ (by assumption) ?r1_25
    case y1_25 => (intro w; go_simp; try with_reducible rfl)
    try simp only [Act.put, yA, yB, yC, yD, yE, yF]
    refine wpAnyE_takeP (i := 2) (v := ?v2_26) rfl (by kernel_rfl) (fun _ _ _ h => h) ⟨by rfl, ?y2_26⟩ (by assumption) ?r2_26
    case y2_26 => (intro w; go_simp; try with_reducible rfl)
    try simp only [Act.put, yA, yB, yC, yD, yE, yF]
    refine wpAnyE_takeP (i := 3) (v := ?v3_27) rfl (by kernel_rfl) (fun _ _ _ h => h) ⟨by rfl, ?y3_27⟩ (by assumption) ?r3_27
    case y3_27 => (intro w; go_simp; try with_reducible rfl)
    try simp only [Act.put, yA, yB, yC, yD, yE, yF]
    refine wpAnyE_takeP (i := 4) (v := ?v4_28) rfl (by kernel_rfl) (fun _ _ _ h => h) ⟨by rfl, ?y4_28⟩ (by assumption) ?r4_28
    case y4_28 => (intro w; go_simp; try with_reducible rfl)
    try simp only [Act.put, yA, yB, yC, yD, yE, yF]
    refine wpAnyE_takeD (i := 5) (v := ?v5_29) rfl (by kernel_rfl) (fun _ _ _ h => h) ⟨by rfl, ?y5_29⟩ (by assumption) ?r5_29
    case y5_29 => (intro w hSw; go_split_ands; go_simp; try with_reducible rfl)
    try simp only [Act.put, yA, yB, yC, yD, yE, yF]
    refine wpAnyE_takeP (i := 6) (v := ?v6_30) rfl (by kernel_rfl) (fun _ _ _ h => h) ⟨by rfl, ?y6_30⟩ (by assumption) ?r6_30
    case y6_30 => (intro w; go_simp; try with_reducible rfl)
    try simp only [Act.put, yA, yB, yC, yD, yE, yF]
    refine wpAnyE_takeP (i := 7) (v := .bool true) rfl (by kernel_rfl) (fun _ _ _ h => h) ⟨by rfl, ?y7_31⟩ (by assumption) ?r7_31
    case y7_31 => (intro w; go_simp)
    try simp only [Act.put, yA, yB, yC, yD, yE, yF]
    refine wpAnyE_takeP (i := 8) (v := .bool true) rfl (by kernel_rfl) (fun _ _ _ h => h) ⟨by rfl, ?y8_32⟩ (by assumption) ?r8_32
    case y8_32 => (intro w; go_simp)
    try simp only [Act.put, yA, yB, yC, yD, yE, yF]
    refine wpAnyE_takeP (i := 9) (v := ?v9_33) rfl (by kernel_rfl) (fun _ _ _ h => h) ⟨by rfl, ?y9_33⟩ (by assumption) ?r9_33
    case y9_33 => (intro w; go_simp; try with_reducible rfl)
    try simp only [Act.put, yA, yB, yC, yD, yE, yF]
    refine wpAnyE_takeP (i := 10) (v := ?v10_34) rfl (by kernel_rfl) (fun _ _ _ h => h) ⟨by rfl, ?y10_34⟩ (by assumption) ?r10_34
    case y10_34 => (intro w; go_simp; try with_reducible rfl)
    try simp only [Act.put, yA, yB, yC, yD, yE, yF]
    refine wpAnyE_takeP (i := 11) (v := ?v11_35) rfl (by kernel_rfl) (fun _ _ _ h => h) ⟨by rfl, ?y11_35⟩ (by assumption) ?r11_35
    case y11_35 => (intro w; go_simp; try with_reducible rfl)
    try simp only [Act.put, yA, yB, yC, yD, yE, yF]
    refine wpAnyE_takeD (i := 12) (v := ?v12_36) rfl (by kernel_rfl) (fun _ _ _ h => h) ⟨by rfl, ?y12_36⟩ (by assumption) ?r12_36
    case y12_36 => (intro w hSw; go_split_ands; go_simp; try with_reducible rfl)
    try simp only [Act.put, yA, yB, yC, yD, yE, yF]
    refine wpAnyE_takeP (i := 13) (v := ?v13_37) rfl (by kernel_rfl) (fun _ _ _ h => h) ⟨by rfl, ?y13_37⟩ (by assumption) ?r13_37
    case y13_37 => (intro w; go_simp; try with_reducible rfl)
    try simp only [Act.put, yA, yB, yC, yD, yE, yF]
    refine wpAnyE_takeP (i := 14) (v := ?v14_38) rfl (by kernel_rfl) (fun _ _ _ h => h) ⟨by rfl, ?y14_38⟩ (by assumption) ?r14_38
    case y14_38 => (intro w; go_simp; try with_reducible rfl)
    try simp only [Act.put, yA, yB, yC, yD, yE, yF]
    refine wpAnyE_takeP (i := 15) (v := ?v15_39) rfl (by kernel_rfl) (fun _ _ _ h => h) ⟨by rfl, ?y15_39⟩ (by assumption) ?r15_39
    case y15_39 => (intro w; go_simp; try with_reducible rfl)
    try simp only [Act.put, yA, yB, yC, yD, yE, yF]
    refine wpAnyE_takeD (i := 16) (v := ?v16_40) rfl (by kernel_rfl) (fun _ _ _ h => h) ⟨by rfl, ?y16_40⟩ (by assumption) ?r16_40
    case y16_40 => (intro w hSw; go_split_ands; go_simp; try with_reducible rfl)
    try simp only [Act.put, yA, yB, yC, yD, yE, yF]
    refine wpAnyE_takeP (i := 17) (v := .bool false) rfl (by kernel_rfl) (fun _ _ _ h => h) ⟨by rfl, ?y17_41⟩ (by assumption) ?r17_41
    case y17_41 => (intro w; go_simp)
    try simp only [Act.put, yA, yB, yC, yD, yE, yF]
    refine wpAnyE_takeP (i := 18) (v := .bool false) rfl (by kernel_rfl) (fun _ _ _ h => h) ⟨by rfl, ?y18_42⟩ (by assumption) ?r18_42
    case y18_42 => (intro w; go_simp)
    try simp only [Act.put, yA, yB, yC, yD, yE, yF]
    refine wpAnyE_takeP (i := 19) (v := ?v19_43) rfl (by kernel_rfl) (fun _ _ _ h => h) ⟨by rfl, ?y19_43⟩ (by assumption) ?r19_43
    case y19_43 => (intro w; go_simp; try with_reducible rfl)
    try simp only [Act.put, yA, yB, yC, yD, yE, yF]
    refine wpAnyE_takeP (i := 20) (v := ?v20_44) rfl (by kernel_rfl) (fun _ _ _ h => h) ⟨by rfl, ?y20_44⟩ (by assumption) ?r20_44
    case y20_44 => (intro w; go_simp; try with_reducible rfl)
    try simp only [Act.put, yA, yB, yC, yD, yE, yF]
    refine wpAnyE_takeP (i := 21) (v := ?v21_45) rfl (by kernel_rfl) (fun _ _ _ h => h) ⟨by rfl, ?y21_45⟩ (by assumption) ?r21_45
    case y21_45 => (intro w; go_simp; try with_reducible rfl)
    try simp only [Act.put, yA, yB, yC, yD, yE, yF]
    refine wpAnyE_takeD (i := 22) (v := ?v22_46) rfl (by kernel_rfl) (fun _ _ _ h => h) ⟨by rfl, ?y22_46⟩ (by assumption) ?r22_46
    case y22_46 => (intro w hSw; go_split_ands; go_simp; try with_reducible rfl)
    try simp only [Act.put, yA, yB, yC, yD, yE, yF]
    refine wpAnyE_takeP (i := 23) (v := ?v23_47) rfl (by kernel_rfl) (fun _ _ _ h => h) ⟨by rfl, ?y23_47⟩ (by assumption) ?r23_47
    case y23_47 => (intro w; go_simp; try with_reducible rfl)
    try simp only [Act.put, yA, yB, yC, yD, yE, yF]
    refine wpAnyE_takeP (i := 24) (v := .bool true) rfl (by kernel_rfl) (fun _ _ _ h => h) ⟨by rfl, ?y24_48⟩ (by assumption) ?r24_48
    case y24_48 => (intro w; go_simp)
    try simp only [Act.put, yA, yB, yC, yD, yE, yF]
    refine wpAnyE_takeP (i := 25) (v := .bool true) rfl (by kernel_rfl) (fun _ _ _ h => h) ⟨by rfl, ?y25_49⟩ (by assumption) ?r25_49
    case y25_49 => (intro w; go_simp)
    try simp only [Act.put, yA, yB, yC, yD, yE, yF]
    refine wpAnyE_takeP (i := 26) (v := ?v26_50) rfl (by kernel_rfl) (fun _ _ _ h => h) ⟨by rfl, ?y26_50⟩ (by assumption) ?r26_50
    case y26_50 => (intro w; go_simp; try with_reducible rfl)
    try simp only [Act.put, yA, yB, yC, yD, yE, yF]
    refine wpAnyE_takeP (i := 27) (v := ?v27_51) rfl (by kernel_rfl) (fun _ _ _ h => h) ⟨by rfl, ?y27_51⟩ (by assumption) ?r27_51
    case y27_51 => (intro w; go_simp; try with_reducible rfl)
    try simp only [Act.put, yA, yB, yC, yD, yE, yF]
    refine wpAnyE_takeP (i := 28) (v := ?v28_52) rfl (by kernel_rfl) (fun _ _ _ h => h) ⟨by rfl, ?y28_52⟩ (by assumption) ?r28_52
    case y28_52 => (intro w; go_simp; try with_reducible rfl)
    try simp only [Act.put, yA, yB, yC, yD, yE, yF]
    refine wpAnyE_takeD (i := 29) (v := ?v29_53) rfl (by kernel_rfl) (fun _ _ _ h => h) ⟨by rfl, ?y29_53⟩ (by assumption) ?r29_53
    case y29_53 => (intro w hSw; go_split_ands; go_simp; try with_reducible rfl)
    try simp only [Act.put, yA, yB, yC, yD, yE, yF]
    refine wpAnyE_takeP (i := 30) (v := .bool false) rfl (by kernel_rfl) (fun _ _ _ h => h) ⟨by rfl, ?y30_54⟩ (by assumption) ?r30_54
    case y30_54 => (intro w; go_simp)
    try simp only [Act.put, yA, yB, yC, yD, yE, yF]
    refine wpAnyE_takeP (i := 31) (v := ?v31_55) rfl (by kernel_rfl) (fun _ _ _ h => h) ⟨by rfl, ?y31_55⟩ (by assumption) ?r31_55
    case y31_55 => (intro w; go_simp; try with_reducible rfl)
    try simp only [Act.put, yA, yB, yC, yD, yE, yF]
    refine wpAnyE_takeP (i := 32) (v := ?v32_56) rfl (by kernel_rfl) (fun _ _ _ h => h) ⟨by rfl, ?y32_56⟩ (by assumption) ?r32_56
    case y32_56 => (intro w; go_simp; try with_reducible rfl)
    try simp only [Act.put, yA, yB, yC, yD, yE, yF]
    refine wpAnyE_one (i := 33) rfl (by kernel_rfl) (fun K hK => ?_)
    go_simp
    refine hK.out _ _ (fun h => Bool.noConfusion (show true = false from h)) ?_
    clear hK K
    try simp only [Act.put, yA, yB, yC, yD, yE, yF]
    have H_s4 := Lib.hid (H_s3.out.z0 H_hne.out H_hqz.out H_hrz.out).drew
    clear kz0 kz1 kzf0 kzf kr0 kr1 krf0 krf kx0 ky0 hHeld
    generalize (W3.setCell ⟨bz, 0, none⟩ (.bool false)).drew = W4 at *
    have kr0 := H_s4.out.r.c0
    have krf0 := H_s4.out.r.f0
    refine wpAnyE_one (i := 34) rfl (by kernel_rfl) (fun K hK => ?_)
    go_simp
    refine hK.out _ _ (fun h => Bool.noConfusion (show true = false from h)) ?_
    clear hK K
    try simp only [Act.put, yA, yB, yC, yD, yE, yF]
    refine wpAnyE_one (i := 35) rfl (by kernel_rfl) (fun K hK => ?_)
    go_simp
    refine hK.out _ _ (fun h => Bool.noConfusion (show true = false from h)) ?_
    clear hK K
    try simp only [Act.put, yA, yB, yC, yD, yE, yF]
    refine wpAnyE_one (i := 36) rfl (by kernel_rfl) (fun K hK => ?_)
    go_simp
    refine hK.out _ _ (fun h => Bool.noConfusion (show true = false from h)) ?_
    clear hK K
    try simp only [Act.put, yA, yB, yC, yD, yE, yF]
    refine wpAnyE_done (by kernel_rfl) ?_ _
    have H_s5 := Lib.hid (H_s4.out.r0 H_hne.out H_hqz.out H_hrz.out)
    clear kr0 krf0
    generalize W4.setCell ⟨br, 0, none⟩ (.bool false) = W5 at *
    go_wp2_with (fail)
    go_ret2
    exact ⟨rfl, H_s5.out.fin H_hqn.out H_hqv.out H_hrn.out H_hrv.out H_hqo.out H_hro.out H_hqr.out⟩
  · have t1 : decide (0 < nq) = true := by simp; omega
    have t2 : decide (0 < nr) = false := by simp; omega
    clear dq dr
    refine wp_region_E (S := fun (w' : World) => w'.cell? ⟨bz, 1, none⟩ = some (.slice qa nq qc) ∧ w'.cell? ⟨br, 1, none⟩ = some (.slice ra nr rc) ∧ w'.cell? ⟨bx, 0, none⟩ = some (.bool false) ∧ w'.cell? ⟨bY, 0, none⟩ = some (.bool false)) 33 (by kernel_rfl) (by exact ⟨kz1, kr1, kx0, ky0⟩) (fun hHeld => ?_)
    refine wpAnyE_takeP (i := 0) (v := ?v0_57) rfl (by kernel_rfl) (fun _ _ _ h => h) ⟨by rfl, ?y0_57⟩ (by assumption) ?r0_57
    case y0_57 => (intro w; go_simp; try with_reducible rfl)
    try simp only [Act.put, yA, yB, yD, yE, yF]
    refine wpAnyE_takeP (i := 1) (v := ?v1_58) rfl (by kernel_rfl) (fun _ _ _ h => h) ⟨by rfl, ?y1_58⟩ (by assumption) ?r1_58
    case y1_58 => (intro w; go_simp; try with_reducible rfl)
    try simp only [Act.put, yA, yB, yC, yD, yE, yF]
    refine wpAnyE_takeP (i := 2) (v := ?v2_59) rfl (by kernel_rfl) (fun _ _ _ h => h) ⟨by rfl, ?y2_59⟩ (by assumption) ?r2_59
    case y2_59 => (intro w; go_simp; try with_reducible rfl)
    try simp only [Act.put, yA, yB, yC, yD, yE, yF]
    refine wpAnyE_takeP (i := 3) (v := ?v3_60) rfl (by kernel_rfl) (fun _ _ _ h => h) ⟨by rfl, ?y3_60⟩ (by assumption) ?r3_60
    case y3_60 => (intro w; go_simp; try with_reducible rfl)
    try simp only [Act.put, yA, yB, yC, yD, yE, yF]
    refine wpAnyE_takeP (i := 4) (v := ?v4_61) rfl (by kernel_rfl) (fun _ _ _ h => h) ⟨by rfl, ?y4_61⟩ (by assumption) ?r4_61
    case y4_61 => (intro w; go_simp; try with_reducible rfl)
    try simp only [Act.put, yA, yB, yC, yD, yE, yF]
    refine wpAnyE_takeD (i := 5) (v := ?v5_62) rfl (by kernel_rfl) (fun _ _ _ h => h) ⟨by rfl, ?y5_62⟩ (by assumption) ?r5_62
    case y5_62 => (intro w hSw; go_split_ands; go_simp; try with_reducible rfl)
    try simp only [Act.put, yA, yB, yC, yD, yE, yF]
    refine wpAnyE_takeP (i := 6) (v := ?v6_63) rfl (by kernel_rfl) (fun _ _ _ h => h) ⟨by rfl, ?y6_63⟩ (by assumption) ?r6_63
    case y6_63 => (intro w; go_simp; try with_reducible rfl)
    try simp only [Act.put, yA, yB, yC, yD, yE, yF]
    refine wpAnyE_takeP (i := 7) (v := .bool true) rfl (by kernel_rfl) (fun _ _ _ h => h) ⟨by rfl, ?y7_64⟩ (by assumption) ?r7_64
    case y7_64 => (intro w; go_simp)
    try simp only [Act.put, yA, yB, yC, yD, yE, yF]
    refine wpAnyE_takeP (i := 8) (v := .bool true) rfl (by kernel_rfl) (fun _ _ _ h => h) ⟨by rfl, ?y8_65⟩ (by assumption) ?r8_65
    case y8_65 => (intro w; go_simp)
    try simp only [Act.put, yA, yB, yC, yD, yE, yF]
    refine wpAnyE_takeP (i := 9) (v := ?v9_66) rfl (by kernel_rfl) (fun _ _ _ h => h) ⟨by rfl, ?y9_66⟩ (by assumption) ?r9_66
    case y9_66 => (intro w; go_simp; try with_reducible rfl)
    try simp only [Act.put, yA, yB, yC, yD, yE, yF]
    refine wpAnyE_takeP (i := 10) (v := ?v10_67) rfl (by kernel_rfl) (fun _ _ _ h => h) ⟨by rfl, ?y10_67⟩ (by assumption) ?r10_67
    case y10_67 => (intro w; go_simp; try with_reducible rfl)
    try simp only [Act.put, yA, yB, yC, yD, yE, yF]
    refine wpAnyE_takeP (i := 11) (v := ?v11_68) rfl (by kernel_rfl) (fun _ _ _ h => h) ⟨by rfl, ?y11_68⟩ (by assumption) ?r11_68
    case y11_68 => (intro w; go_simp; try with_reducible rfl)
    try simp only [Act.put, yA, yB, yC, yD, yE, yF]
    refine wpAnyE_takeD (i := 12) (v := ?v12_69) rfl (by kernel_rfl) (fun _ _ _ h => h) ⟨by rfl, ?y12_69⟩ (by assumption) ?r12_69
    case y12_69 => (intro w hSw; go_split_ands; go_simp; try with_reducible rfl)
    try simp only [Act.put, yA, yB, yC, yD, yE, yF]
    refine wpAnyE_takeP (i := 13) (v := ?v13_70) rfl (by kernel_rfl) (fun _ _ _ h => h) ⟨by rfl, ?y13_70⟩ (by assumption) ?r13_70
    case y13_70 => (intro w; go_simp; try with_reducible rfl)
    try simp only [Act.put, yA, yB, yC, yD, yE, yF]
    refine wpAnyE_takeP (i := 14) (v := ?v14_71) rfl (by kernel_rfl) (fun _ _ _ h => h) ⟨by rfl, ?y14_71⟩ (by assumption) ?r14_71
    case y14_71 => (intro w; go_simp; try with_reducible rfl)
    try simp only [Act.put, yA, yB, yC, yD, yE, yF]
    refine wpAnyE_takeP (i := 15) (v := ?v15_72) rfl (by kernel_rfl) (fun _ _ _ h => h) ⟨by rfl, ?y15_72⟩ (by assumption) ?r15_72
    case y15_72 => (intro w; go_simp; try with_reducible rfl)
    try simp only [Act.put, yA, yB, yC, yD, yE, yF]
    refine wpAnyE_takeD (i := 16) (v := ?v16_73) rfl (by kernel_rfl) (fun _ _ _ h => h) ⟨by rfl, ?y16_73⟩ (by assumption) ?r16_73
    case y16_73 => (intro w hSw; go_split_ands; go_simp; try with_reducible rfl)
    try simp only [Act.put, yA, yB, yC, yD, yE, yF]
    refine wpAnyE_takeP (i := 17) (v := .bool false) rfl (by kernel_rfl) (fun _ _ _ h => h) ⟨by rfl, ?y17_74⟩ (by assumption) ?r17_74
    case y17_74 => (intro w; go_simp)
    try simp only [Act.put, yA, yB, yC, yD, yE, yF]
    refine wpAnyE_takeP (i := 18) (v := .bool false) rfl (by kernel_rfl) (fun _ _ _ h => h) ⟨by rfl, ?y18_75⟩ (by assumption) ?r18_75
    case y18_75 => (intro w; go_simp)
    try simp only [Act.put, yA, yB, yC, yD, yE, yF]
    refine wpAnyE_takeP (i := 19) (v := ?v19_76) rfl (by kernel_rfl) (fun _ _ _ h => h) ⟨by rfl, ?y19_76⟩ (by assumption) ?r19_76
    case y19_76 => (intro w; go_simp; try with_reducible rfl)
    try simp only [Act.put, yA, yB, yC, yD, yE, yF]
    refine wpAnyE_takeP (i := 20) (v := ?v20_77) rfl (by kernel_rfl) (fun _ _ _ h => h) ⟨by rfl, ?y20_77⟩ (by assumption) ?r20_77
    case y20_77 => (intro w; go_simp; try with_reducible rfl)
    try simp only [Act.put, yA, yB, yC, yD, yE, yF]
    refine wpAnyE_takeP (i := 21) (v := ?v21_78) rfl (by kernel_rfl) (fun _ _ _ h => h) ⟨by rfl, ?y21_78⟩ (by assumption) ?r21_78
    case y21_78 => (intro w; go_simp; try with_reducible rfl)
    try simp only [Act.put, yA, yB, yC, yD, yE, yF]
    refine wpAnyE_takeD (i := 22) (v := ?v22_79) rfl (by kernel_rfl) (fun _ _ _ h => h) ⟨by rfl, ?y22_79⟩ (by assumption) ?r22_79
    case y22_79 => (intro w hSw; go_split_ands; go_simp; try with_reducible rfl)
    try simp only [Act.put, yA, yB, yC, yD, yE, yF]
    refine wpAnyE_takeP (i := 23) (v := ?v23_80) rfl (by kernel_rfl) (fun _ _ _ h => h) ⟨by rfl, ?y23_80⟩ (by assumption) ?r23_80
    case y23_80 => (intro w; go_simp; try with_reducible rfl)
    try simp only [Act.put, yA, yB, yC, yD, yE, yF]
    refine wpAnyE_takeP (i := 24) (v := .bool false) rfl (by kernel_rfl) (fun _ _ _ h => h) ⟨by rfl, ?y24_81⟩ (by assumption) ?r24_81
    case y24_81 => (intro w; go_simp)
    try simp only [Act.put, yA, yB, yC, yD, yE, yF]
    refine wpAnyE_takeP (i := 25) (v := .bool false) rfl (by kernel_rfl) (fun _ _ _ h => h) ⟨by rfl, ?y25_82⟩ (by assumption) ?r25_82
    case y25_82 => (intro w; go_simp)
    try simp only [Act.put, yA, yB, yC, yD, yE, yF]
    refine wpAnyE_takeU (i := 26) rfl (by kernel_rfl) (fun _ _ _ h => h) (by rfl) (by assumption) ?_
    try simp only [Act.put, yA, yB, yC, yD, yE, yF]
    refine wpAnyE_takeU (i := 27) rfl (by kernel_rfl) (fun _ _ _ h => h) (by rfl) (by assumption) ?_
    try simp only [Act.put, yA, yB, yC, yD, yE, yF]
    refine wpAnyE_takeU (i := 28) rfl (by kernel_rfl) (fun _ _ _ h => h) (by rfl) (by assumption) ?_
    try simp only [Act.put, yA, yB, yC, yD, yE, yF]
    refine wpAnyE_takeU (i := 29) rfl (by kernel_rfl) (fun _ _ _ h => h) (by rfl) (by assumption) ?_
    try simp only [Act.put, yA, yB, yC, yD, yE, yF]
    refine wpAnyE_takeP (i := 30) (v := .bool false) rfl (by kernel_rfl) (fun _ _ _ h => h) ⟨by rfl, ?y30_87⟩ (by assumption) ?r30_87
    case y30_87 => (intro w; go_simp)
    try simp only [Act.put, yA, yB, yC, yD, yE, yF]
    refine wpAnyE_takeP (i := 31) (v := ?v31_88) rfl (by kernel_rfl) (fun _ _ _ h => h) ⟨by rfl, ?y31_88⟩ (by assumption) ?r31_88
    case y31_88 => (intro w; go_simp; try with_reducible rfl)
    try simp only [Act.put, yA, yB, yC, yD, yE, yF]
    refine wpAnyE_takeP (i := 32) (v := ?v32_89) rfl (by kernel_rfl) (fun _ _ _ h => h) ⟨by rfl, ?y32_89⟩ (by assumption) ?r32_89
    case y32_89 => (intro w; go_simp; try with_reducible rfl)
    try simp only [Act.put, yA, yB, yC, yD, yE, yF]
    refine wpAnyE_one (i := 33) rfl (by kernel_rfl) (fun K hK => ?_)
    go_simp
    refine hK.out _ _ (fun h => Bool.noConfusion (show true = false from h)) ?_
    clear hK K
    try simp only [Act.put, yA, yB, yC, yD, yE, yF]
    have H_s4 := Lib.hid (H_s3.out.z0 H_hne.out H_hqz.out H_hrz.out).drew
    clear kz0 kz1 kzf0 kzf kr0 kr1 krf0 krf kx0 ky0 hHeld
    generalize (W3.setCell ⟨bz, 0, none⟩ (.bool false)).drew = W4 at *
    have kr0 := H_s4.out.r.c0
    have krf0 := H_s4.out.r.f0
    refine wpAnyE_one (i := 34) rfl (by kernel_rfl) (fun K hK => ?_)
    go_simp
    refine hK.out _ _ (fun h => Bool.noConfusion (show true = false from h)) ?_
    clear hK K
    try simp only [Act.put, yA, yB, yC, yD, yE, yF]
    refine wpAnyE_one (i := 35) rfl (by kernel_rfl) (fun K hK => ?_)
    go_simp
    refine hK.out _ _ (fun h => Bool.noConfusion (show true = false from h)) ?_
    clear hK K
    try simp only [Act.put, yA, yB, yC, yD, yE, yF]
    refine wpAnyE_one (i := 36) rfl (by kernel_rfl) (fun K hK => ?_)
    go_simp
    refine hK.out _ _ (fun h => Bool.noConfusion (show true = false from h)) ?_
    clear hK K
    try simp only [Act.put, yA, yB, yC, yD, yE, yF]
    refine wpAnyE_done (by kernel_rfl) ?_ _
    have H_s5 := Lib.hid (H_s4.out.r0 H_hne.out H_hqz.out H_hrz.out)
    clear kr0 krf0
    generalize W4.setCell ⟨br, 0, none⟩ (.bool false) = W5 at *
    go_wp2_with (fail)
    go_ret2
    exact ⟨rfl, H_s5.out.fin H_hqn.out H_hqv.out H_hrn.out H_hrv.out H_hqo.out H_hro.out H_hqr.out⟩
  · have t1 : decide (0 < nq) = false := by simp; omega
    have t2 : decide (0 < nr) = true := by simp; omega
    clear dq dr
    refine wp_region_E (S := fun (w' : World) => w'.cell? ⟨bz, 1, none⟩ = some (.slice qa nq qc) ∧ w'.cell? ⟨br, 1, none⟩ = some (.slice ra nr rc) ∧ w'.cell? ⟨bx, 0, none⟩ = some (.bool false) ∧ w'.cell? ⟨bY, 0, none⟩ = some (.bool false)) 33 (by kernel_rfl) (by exact ⟨kz1, kr1, kx0, ky0⟩) (fun hHeld => ?_)
    refine wpAnyE_takeP (i := 0) (v := ?v0_90) rfl (by kernel_rfl) (fun _ _ _ h => h) ⟨by rfl, ?y0_90⟩ (by assumption) ?r0_90
    case y0_90 => (intro w; go_simp; try with_reducible rfl)
    try simp only [Act.put, yA, yB, yD, yE, yF]
    refine wpAnyE_takeP (i := 1) (v := ?v1_91) rfl (by kernel_rfl) (fun _ _ _ h => h) ⟨by rfl, ?y1_91⟩ (by assumption) ?r1_91
    case y1_91 => (intro w; go_simp; try with_reducible rfl)
    try simp only [Act.put, yA, yB, yC, yD, yE, yF]
    refine wpAnyE_takeP (i := 2) (v := ?v2_92) rfl (by kernel_rfl) (fun _ _ _ h => h) ⟨by rfl, ?y2_92⟩ (by assumption) ?r2_92
    case y2_92 => (intro w; go_simp; try with_reducible rfl)
    try simp only [Act.put, yA, yB, yC, yD, yE, yF]
    refine wpAnyE_takeP (i := 3) (v := ?v3_93) rfl (by kernel_rfl) (fun _ _ _ h => h) ⟨by rfl, ?y3_93⟩ (by assumption) ?r3_93
    case y3_93 => (intro w; go_simp; try with_reducible rfl)
    try simp only [Act.put, yA, yB, yC, yD, yE, yF]
    refine wpAnyE_takeP (i := 4) (v := ?v4_94) rfl (by kernel_rfl) (fun _ _ _ h => h) ⟨by rfl, ?y4_94⟩ (by assumption) ?r4_94
    case y4_94 => (intro w; go_simp; try with_reducible rfl)
    try simp only [Act.put, yA, yB, yC, yD, yE, yF]
    refine wpAnyE_takeD (i := 5) (v := ?v5_95) rfl (by kernel_rfl) (fun _ _ _ h => h) ⟨by rfl, ?y5_95⟩ (by assumption) ?r5_95
    case y5_95 => (intro w hSw; go_split_ands; go_simp; try with_reducible rfl)
    try simp only [Act.put, yA, yB, yC, yD, yE, yF]
    refine wpAnyE_takeP (i := 6) (v := ?v6_96) rfl (by kernel_rfl) (fun _ _ _ h => h) ⟨by rfl, ?y6_96⟩ (by assumption) ?r6_96
    case y6_96 => (intro w; go_simp; try with_reducible rfl)
    try simp only [Act.put, yA, yB, yC, yD, yE, yF]
    refine wpAnyE_takeP (i := 7) (v := .bool false) rfl (by kernel_rfl) (fun _ _ _ h => h) ⟨by rfl, ?y7_97⟩ (by assumption) ?r7_97
    case y7_97 => (intro w; go_simp)
    try simp only [Act.put, yA, yB, yC, yD, yE, yF]
    refine wpAnyE_takeP (i := 8) (v := .bool false) rfl (by kernel_rfl) (fun _ _ _ h => h) ⟨by rfl, ?y8_98⟩ (by assumption) ?r8_98
    case y8_98 => (intro w; go_simp)
    try simp only [Act.put, yA, yB, yC, yD, yE, yF]
    refine wpAnyE_takeU (i := 9) rfl (by kernel_rfl) (fun _ _ _ h => h) (by rfl) (by assumption) ?_
    try simp only [Act.put, yA, yB, yC, yD, yE, yF]
    refine wpAnyE_takeU (i := 10) rfl (by kernel_rfl) (fun _ _ _ h => h) (by rfl) (by assumption) ?_
    try simp only [Act.put, yA, yB, yC, yD, yE, yF]
    refine wpAnyE_takeU (i := 11) rfl (by kernel_rfl) (fun _ _ _ h => h) (by rfl) (by assumption) ?_
    try simp only [Act.put, yA, yB, yC, yD, yE, yF]
    refine wpAnyE_takeU (i := 12) rfl (by kernel_rfl) (fun _ _ _ h => h) (by rfl) (by assumption) ?_
    try simp only [Act.put, yA, yB, yC, yD, yE, yF]
    refine wpAnyE_takeU (i := 13) rfl (by kernel_rfl) (fun _ _ _ h => h) (by rfl) (by assumption) ?_
    try simp only [Act.put, yA, yB, yC, yD, yE, yF]
    refine wpAnyE_takeU (i := 14) rfl (by kernel_rfl) (fun _ _ _ h => h) (by rfl) (by assumption) ?_
    try simp only [Act.put, yA, yB, yC, yD, yE, yF]
    refine wpAnyE_takeU (i := 15) rfl (by kernel_rfl) (fun _ _ _ h => h) (by rfl) (by assumption) ?_
    try simp only [Act.put, yA, yB, yC, yD, yE, yF]
    refine wpAnyE_takeU (i := 16) rfl (by kernel_rfl) (fun _ _ _ h => h) (by rfl) (by assumption) ?_
    try simp only [Act.put, yA, yB, yC, yD, yE, yF]
    refine wpAnyE_takeU (i := 17) rfl (by kernel_rfl) (fun _ _ _ h => h) (by rfl) (by assumption) ?_
    try simp only [Act.put, yA, yB, yC, yD, yE, yF]
    refine wpAnyE_takeP (i := 18) (v := .bool false) rfl (by kernel_rfl) (fun _ _ _ h => h) ⟨by rfl, ?y18_108⟩ (by assumption) ?r18_108
    case y18_108 => (intro w; go_simp)
    try simp only [Act.put, yA, yB, yC, yD, yE, yF]
    refine wpAnyE_takeP (i := 19) (v := ?v19_109) rfl (by kernel_rfl) (fun _ _ _ h => h) ⟨by rfl, ?y19_109⟩ (by assumption) ?r19_109
    case y19_109 => (intro w; go_simp; try with_reducible rfl)
    try simp only [Act.put, yA, yB, yC, yD, yE, yF]
    refine wpAnyE_takeP (i := 20) (v := ?v20_110) rfl (by kernel_rfl) (fun _ _ _ h => h) ⟨by rfl, ?y20_110⟩ (by assumption) ?r20_110
    case y20_110 => (intro w; go_simp; try with_reducible rfl)
    try simp only [Act.put, yA, yB, yC, yD, yE, yF]
    refine wpAnyE_takeP (i := 21) (v := ?v21_111) rfl (by kernel_rfl) (fun _ _ _ h => h) ⟨by rfl, ?y21_111⟩ (by assumption) ?r21_111
    case y21_111 => (intro w; go_simp; try with_reducible rfl)
    try simp only [Act.put, yA, yB, yC, yD, yE, yF]
    refine wpAnyE_takeD (i := 22) (v := ?v22_112) rfl (by kernel_rfl) (fun _ _ _ h => h) ⟨by rfl, ?y22_112⟩ (by assumption) ?r22_112
    case y22_112 => (intro w hSw; go_split_ands; go_simp; try with_reducible rfl)
    try simp only [Act.put, yA, yB, yC, yD, yE, yF]
    refine wpAnyE_takeP (i := 23) (v := ?v23_113) rfl (by kernel_rfl) (fun _ _ _ h => h) ⟨by rfl, ?y23_113⟩ (by assumption) ?r23_113
    case y23_113 => (intro w; go_simp; try with_reducible rfl)
    try simp only [Act.put, yA, yB, yC, yD, yE, yF]
    refine wpAnyE_takeP (i := 24) (v := .bool true) rfl (by kernel_rfl) (fun _ _ _ h => h) ⟨by rfl, ?y24_114⟩ (by assumption) ?r24_114
    case y24_114 => (intro w; go_simp)
    try simp only [Act.put, yA, yB, yC, yD, yE, yF]
    refine wpAnyE_takeP (i := 25) (v := .bool true) rfl (by kernel_rfl) (fun _ _ _ h => h) ⟨by rfl, ?y25_115⟩ (by assumption) ?r25_115
    case y25_115 => (intro w; go_simp)
    try simp only [Act.put, yA, yB, yC, yD, yE, yF]
    refine wpAnyE_takeP (i := 26) (v := ?v26_116) rfl (by kernel_rfl) (fun _ _ _ h => h) ⟨by rfl, ?y26_116⟩ (by assumption) ?r26_116
    case y26_116 => (intro w; go_simp; try with_reducible rfl)
    try simp only [Act.put, yA, yB, yC, yD, yE, yF]
    refine wpAnyE_takeP (i := 27) (v := ?v27_117) rfl (by kernel_rfl) (fun _ _ _ h => h) ⟨by rfl, ?y27_117⟩ (by assumption) ?r27_117
    case y27_117 => (intro w; go_simp; try with_reducible rfl)
    try simp only [Act.put, yA, yB, yC, yD, yE, yF]
    refine wpAnyE_takeP (i := 28) (v := ?v28_118) rfl (by kernel_rfl) (fun _ _ _ h => h) ⟨by rfl, ?y28_118⟩ (by assumption) ?r28_118
    case y28_118 => (intro w; go_simp; try with_reducible rfl)
    try simp only [Act.put, yA, yB, yC, yD, yE, yF]
    refine wpAnyE_takeD (i := 29) (v := ?v29_119) rfl (by kernel_rfl) (fun _ _ _ h => h) ⟨by rfl, ?y29_119⟩ (by assumption) ?r29_119
    case y29_119 => (intro w hSw; go_split_ands; go_simp; try with_reducible rfl)
    try simp only [Act.put, yA, yB, yC, yD, yE, yF]
    refine wpAnyE_takeP (i := 30) (v := .bool false) rfl (by kernel_rfl) (fun _ _ _ h => h) ⟨by rfl, ?y30_120⟩ (by assumption) ?r30_120
    case y30_120 => (intro w; go_simp)
    try simp only [Act.put, yA, yB, yC, yD, yE, yF]
    refine wpAnyE_takeP (i := 31) (v := ?v31_121) rfl (by kernel_rfl) (fun _ _ _ h => h) ⟨by rfl, ?y31_121⟩ (by assumption) ?r31_121
    case y31_121 => (intro w; go_simp; try with_reducible rfl)
    try simp only [Act.put, yA, yB, yC, yD, yE, yF]
    refine wpAnyE_takeP (i := 32) (v := ?v32_122) rfl (by kernel_rfl) (fun _ _ _ h => h) ⟨by rfl, ?y32_122⟩ (by assumption) ?r32_122
    case y32_122 => (intro w; go_simp; try with_reducible rfl)
    try simp only [Act.put, yA, yB, yC, yD, yE, yF]
    refine wpAnyE_one (i := 33) rfl (by kernel_rfl) (fun K hK => ?_)
    go_simp
    refine hK.out _ _ (fun h => Bool.noConfusion (show true = false from h)) ?_
    clear hK K
    try simp only [Act.put, yA, yB, yC, yD, yE, yF]
    have H_s4 := Lib.hid (H_s3.out.z0 H_hne.out H_hqz.out H_hrz.out).drew
    clear kz0 kz1 kzf0 kzf kr0 kr1 krf0 krf kx0 ky0 hHeld
    generalize (W3.setCell ⟨bz, 0, none⟩ (.bool false)).drew = W4 at *
    have kr0 := H_s4.out.r.c0
    have krf0 := H_s4.out.r.f0
    refine wpAnyE_one (i := 34) rfl (by kernel_rfl) (fun K hK => ?_)
    go_simp
    refine hK.out _ _ (fun h => Bool.noConfusion (show true = false from h)) ?_
    clear hK K
    try simp only [Act.put, yA, yB, yC, yD, yE, yF]
    refine wpAnyE_one (i := 35) rfl (by kernel_rfl) (fun K hK => ?_)
    go_simp
    refine hK.out _ _ (fun h => Bool.noConfusion (show true = false from h)) ?_
    clear hK K
    try simp only [Act.put, yA, yB, yC, yD, yE, yF]
    refine wpAnyE_one (i := 36) rfl (by kernel_rfl) (fun K hK => ?_)
    go_simp
    refine hK.out _ _ (fun h => Bool.noConfusion (show true = false from h)) ?_
    clear hK K
    try simp only [Act.put, yA, yB, yC, yD, yE, yF]
    refine wpAnyE_done (by kernel_rfl) ?_ _
    have H_s5 := Lib.hid (H_s4.out.r0 H_hne.out H_hqz.out H_hrz.out)
    clear kr0 krf0
    generalize W4.setCell ⟨br, 0, none⟩ (.bool false) = W5 at *
    go_wp2_with (fail)
    go_ret2
    exact ⟨rfl, H_s5.out.fin H_hqn.out H_hqv.out H_hrn.out H_hrv.out H_hqo.out H_hro.out H_hqr.out⟩
  · have t1 : decide (0 < nq) = false := by simp; omega
    have t2 : decide (0 < nr) = false := by simp; omega
    clear dq dr
    refine wp_region_E (S := fun (w' : World) => w'.cell? ⟨bz, 1, none⟩ = some (.slice qa nq qc) ∧ w'.cell? ⟨br, 1, none⟩ = some (.slice ra nr rc) ∧ w'.cell? ⟨bx, 0, none⟩ = some (.bool false) ∧ w'.cell? ⟨bY, 0, none⟩ = some (.bool false)) 33 (by kernel_rfl) (by exact ⟨kz1, kr1, kx0, ky0⟩) (fun hHeld => ?_)
    refine wpAnyE_takeP (i := 0) (v := ?v0_123) rfl (by kernel_rfl) (fun _ _ _ h => h) ⟨by rfl, ?y0_123⟩ (by assumption) ?r0_123
    case y0_123 => (intro w; go_simp; try with_reducible rfl)
    try simp only [Act.put, yA, yB, yD, yE, yF]
    refine wpAnyE_takeP (i := 1) (v := ?v1_124) rfl (by kernel_rfl) (fun _ _ _ h => h) ⟨by rfl, ?y1_124⟩ (by assumption) ?r1_124
    case y1_124 => (intro w; go_simp; try with_reducible rfl)
    try simp only [Act.put, yA, yB, yC, yD, yE, yF]
    refine wpAnyE_takeP (i := 2) (v := ?v2_125) rfl (by kernel_rfl) (fun _ _ _ h => h) ⟨by rfl, ?y2_125⟩ (by assumption) ?r2_125
    case y2_125 => (intro w; go_simp; try with_reducible rfl)
    try simp only [Act.put, yA, yB, yC, yD, yE, yF]
    refine wpAnyE_takeP (i := 3) (v := ?v3_126) rfl (by kernel_rfl) (fun _ _ _ h => h) ⟨by rfl, ?y3_126⟩ (by assumption) ?r3_126
    case y3_126 => (intro w; go_simp; try with_reducible rfl)
    try simp only [Act.put, yA, yB, yC, yD, yE, yF]
    refine wpAnyE_takeP (i := 4) (v := ?v4_127) rfl (by kernel_rfl) (fun _ _ _ h => h) ⟨by rfl, ?y4_127⟩ (by assumption) ?r4_127
    case y4_127 => (intro w; go_simp; try with_reducible rfl)
    try simp only [Act.put, yA, yB, yC, yD, yE, yF]
    refine wpAnyE_takeD (i := 5) (v := ?v5_128) rfl (by kernel_rfl) (fun _ _ _ h => h) ⟨by rfl, ?y5_128⟩ (by assumption) ?r5_128
    case y5_128 => (intro w hSw; go_split_ands; go_simp; try with_reducible rfl)
    try simp only [Act.put, yA, yB, yC, yD, yE, yF]
    refine wpAnyE_takeP (i := 6) (v := ?v6_129) rfl (by kernel_rfl) (fun _ _ _ h => h) ⟨by rfl, ?y6_129⟩ (by assumption) ?r6_129
    case y6_129 => (intro w; go_simp; try with_reducible rfl)
    try simp only [Act.put, yA, yB, yC, yD, yE, yF]
    refine wpAnyE_takeP (i := 7) (v := .bool false) rfl (by kernel_rfl) (fun _ _ _ h => h) ⟨by rfl, ?y7_130⟩ (by assumption) ?r7_130
    case y7_130 => (intro w; go_simp)
    try simp only [Act.put, yA, yB, yC, yD, yE, yF]
    refine wpAnyE_takeP (i := 8) (v := .bool false) rfl (by kernel_rfl) (fun _ _ _ h => h) ⟨by rfl, ?y8_131⟩ (by assumption) ?r8_131
    case y8_131 => (intro w; go_simp)
    try simp only [Act.put, yA, yB, yC, yD, yE, yF]
    refine wpAnyE_takeU (i := 9) rfl (by kernel_rfl) (fun _ _ _ h => h) (by rfl) (by assumption) ?_
    try simp only [Act.put, yA, yB, yC, yD, yE, yF]
    refine wpAnyE_takeU (i := 10) rfl (by kernel_rfl) (fun _ _ _ h => h) (by rfl) (by assumption) ?_
    try simp only [Act.put, yA, yB, yC, yD, yE, yF]
    refine wpAnyE_takeU (i := 11) rfl (by kernel_rfl) (fun _ _ _ h => h) (by rfl) (by assumption) ?_
    try simp only [Act.put, yA, yB, yC, yD, yE, yF]
    refine wpAnyE_takeU (i := 12) rfl (by kernel_rfl) (fun _ _ _ h => h) (by rfl) (by assumption) ?_
    try simp only [Act.put, yA, yB, yC, yD, yE, yF]
    refine wpAnyE_takeU (i := 13) rfl (by kernel_rfl) (fun _ _ _ h => h) (by rfl) (by assumption) ?_
    try simp only [Act.put, yA, yB, yC, yD, yE, yF]
    refine wpAnyE_takeU (i := 14) rfl (by kernel_rfl) (fun _ _ _ h => h) (by rfl) (by assumption) ?_
    try simp only [Act.put, yA, yB, yC, yD, yE, yF]
    refine wpAnyE_takeU (i := 15) rfl (by kernel_rfl) (fun _ _ _ h => h) (by rfl) (by assumption) ?_
    try simp only [Act.put, yA, yB, yC, yD, yE, yF]
    refine wpAnyE_takeU (i := 16) rfl (by kernel_rfl) (fun _ _ _ h => h) (by rfl) (by assumption) ?_
    try simp only [Act.put, yA, yB, yC, yD, yE, yF]
    refine wpAnyE_takeU (i := 17) rfl (by kernel_rfl) (fun _ _ _ h => h) (by rfl) (by assumption) ?_
    try simp only [Act.put, yA, yB, yC, yD, yE, yF]
    refine wpAnyE_takeP (i := 18) (v := .bool false) rfl (by kernel_rfl) (fun _ _ _ h => h) ⟨by rfl, ?y18_141⟩ (by assumption) ?r18_141
    case y18_141 => (intro w; go_simp)
    try simp only [Act.put, yA, yB, yC, yD, yE, yF]
    refine wpAnyE_takeP (i := 19) (v := ?v19_142) rfl (by kernel_rfl) (fun _ _ _ h => h) ⟨by rfl, ?y19_142⟩ (by assumption) ?r19_142
    case y19_142 => (intro w; go_simp; try with_reducible rfl)
    try simp only [Act.put, yA, yB, yC, yD, yE, yF]
    refine wpAnyE_takeP (i := 20) (v := ?v20_143) rfl (by kernel_rfl) (fun _ _ _ h => h) ⟨by rfl, ?y20_143⟩ (by assumption) ?r20_143
    case y20_143 => (intro w; go_simp; try with_reducible rfl)
    try simp only [Act.put, yA, yB, yC, yD, yE, yF]
    refine wpAnyE_takeP (i := 21) (v := ?v21_144) rfl (by kernel_rfl) (fun _ _ _ h => h) ⟨by rfl, ?y21_144⟩ (by assumption) ?r21_144
    case y21_144 => (intro w; go_simp; try with_reducible rfl)
    try simp only [Act.put, yA, yB, yC, yD, yE, yF]
    refine wpAnyE_takeD (i := 22) (v := ?v22_145) rfl (by kernel_rfl) (fun _ _ _ h => h) ⟨by rfl, ?y22_145⟩ (by assumption) ?r22_145
    case y22_145 => (intro w hSw; go_split_ands; go_simp; try with_reducible rfl)
    try simp only [Act.put, yA, yB, yC, yD, yE, yF]
    refine wpAnyE_takeP (i := 23) (v := ?v23_146) rfl (by kernel_rfl) (fun _ _ _ h => h) ⟨by rfl, ?y23_146⟩ (by assumption) ?r23_146
    case y23_146 => (intro w; go_simp; try with_reducible rfl)
    try simp only [Act.put, yA, yB, yC, yD, yE, yF]
    refine wpAnyE_takeP (i := 24) (v := .bool false) rfl (by kernel_rfl) (fun _ _ _ h => h) ⟨by rfl, ?y24_147⟩ (by assumption) ?r24_147
    case y24_147 => (intro w; go_simp)
    try simp only [Act.put, yA, yB, yC, yD, yE, yF]
    refine wpAnyE_takeP (i := 25) (v := .bool false) rfl (by kernel_rfl) (fun _ _ _ h => h) ⟨by rfl, ?y25_148⟩ (by assumption) ?r25_148
    case y25_148 => (intro w; go_simp)
    try simp only [Act.put, yA, yB, yC, yD, yE, yF]
    refine wpAnyE_takeU (i := 26) rfl (by kernel_rfl) (fun _ _ _ h => h) (by rfl) (by assumption) ?_
    try simp only [Act.put, yA, yB, yC, yD, yE, yF]
    refine wpAnyE_takeU (i := 27) rfl (by kernel_rfl) (fun _ _ _ h => h) (by rfl) (by assumption) ?_
    try simp only [Act.put, yA, yB, yC, yD, yE, yF]
    refine wpAnyE_takeU (i := 28) rfl (by kernel_rfl) (fun _ _ _ h => h) (by rfl) (by assumption) ?_
    try simp only [Act.put, yA, yB, yC, yD, yE, yF]
    refine wpAnyE_takeU (i := 29) rfl (by kernel_rfl) (fun _ _ _ h => h) (by rfl) (by assumption) ?_
    try simp only [Act.put, yA, yB, yC, yD, yE, yF]
    refine wpAnyE_takeP (i := 30) (v := .bool false) rfl (by kernel_rfl) (fun _ _ _ h => h) ⟨by rfl, ?y30_153⟩ (by assumption) ?r30_153
    case y30_153 => (intro w; go_simp)
    try simp only [Act.put, yA, yB, yC, yD, yE, yF]
    refine wpAnyE_takeP (i := 31) (v := ?v31_154) rfl (by kernel_rfl) (fun _ _ _ h => h) ⟨by rfl, ?y31_154⟩ (by assumption) ?r31_154
    case y31_154 => (intro w; go_simp; try with_reducible rfl)
    try simp only [Act.put, yA, yB, yC, yD, yE, yF]
    refine wpAnyE_takeP (i := 32) (v := ?v32_155) rfl (by kernel_rfl) (fun _ _ _ h => h) ⟨by rfl, ?y32_155⟩ (by assumption) ?r32_155
    case y32_155 => (intro w; go_simp; try with_reducible rfl)
    try simp only [Act.put, yA, yB, yC, yD, yE, yF]
    refine wpAnyE_one (i := 33) rfl (by kernel_rfl) (fun K hK => ?_)
    go_simp
    refine hK.out _ _ (fun h => Bool.noConfusion (show true = false from h)) ?_
    clear hK K
    try simp only [Act.put, yA, yB, yC, yD, yE, yF]
    have H_s4 := Lib.hid (H_s3.out.z0 H_hne.out H_hqz.out H_hrz.out).drew
    clear kz0 kz1 kzf0 kzf kr0 kr1 krf0 krf kx0 ky0 hHeld
    generalize (W3.setCell ⟨bz, 0, none⟩ (.bool false)).drew = W4 at *
    have kr0 := H_s4.out.r.c0
    have krf0 := H_s4.out.r.f0
    refine wpAnyE_one (i := 34) rfl (by kernel_rfl) (fun K hK => ?_)
    go_simp
    refine hK.out _ _ (fun h => Bool.noConfusion (show true = false from h)) ?_
    clear hK K
    try simp only [Act.put, yA, yB, yC, yD, yE, yF]
    refine wpAnyE_one (i := 35) rfl (by kernel_rfl) (fun K hK => ?_)
    go_simp
    refine hK.out _ _ (fun h => Bool.noConfusion (show true = false from h)) ?_
    clear hK K
    try simp only [Act.put, yA, yB, yC, yD, yE, yF]
    refine wpAnyE_one (i := 36) rfl (by kernel_rfl) (fun K hK => ?_)
    go_simp
    refine hK.out _ _ (fun h => Bool.noConfusion (show true = false from h)) ?_
    clear hK K
    try simp only [Act.put, yA, yB, yC, yD, yE, yF]
    refine wpAnyE_done (by kernel_rfl) ?_ _
    have H_s5 := Lib.hid (H_s4.out.r0 H_hne.out H_hqz.out H_hrz.out)
    clear kr0 krf0
    generalize W4.setCell ⟨br, 0, none⟩ (.bool false) = W5 at *
    go_wp2_with (fail)
    go_ret2
    exact ⟨rfl, H_s5.out.fin H_hqn.out H_hqv.out H_hrn.out H_hrv.out H_hqo.out H_hro.out H_hqr.out⟩

theorem bquoRem_all (bz bx bY br : Nat) (vz vx vy vr : Value) (nz nx y nr : Nat) (w : World) (hG : Glob w) (hn : nx < wpow 39) (hy0 : 0 < y) (hyb : y < wpow 3) (hne : bz ≠ br)
    (hz : BI w bz vz nz) (hx : BI w bx vx nx) (hy : BI w bY vy y) (hr : BI w br vr nr) (hs : Sep vz vx) (ha : ∀ k, vz.ownBlock = some k → vr.ownBlock ≠ some k)
    (hax : ∀ k, vr.ownBlock = some k → vx.ownBlock ≠ some k) (hay : ∀ k, vr.ownBlock = some k → vy.ownBlock ≠ some k) :
    Calls Tryz.prog 72 #[.pointer (some ⟨bz, 0, none⟩), .pointer (some ⟨bx, 0, none⟩), .pointer (some ⟨bY, 0, none⟩), .pointer (some ⟨br, 0, none⟩)] w
      (fun e w' => e = .returned (.tuple #[]) ∧ QRSet w bz br vz vr (nx / y) (nx % y) w') := by
  have h := QuoRem_all bz bx bY br vz vx vy vr nz nx y nr w hG hn hy0 hyb hne hz hx hy hr hs ha hax hay
  clear hG hn hy0 hyb hne hz hx hy hr hs ha hax hay
  have H_h := Lib.hid h; clear h
  go_enter Tryz.func72, Tryz.ntmps72
  go_wp2_with (fail)
  refine H_h.out.mono ?_
  rintro e w2 ⟨rfl, hb⟩
  have H_hb := Lib.hid hb; clear hb
  go_wp2
  go_end0
  exact ⟨rfl, H_hb.out⟩

end Go.Proofs.YtjjolcjeiogdmabGreatDoor
