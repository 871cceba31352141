/- The contracts of math/big's integers: Add, Sub. -/
import Derived.Test.YtllencgncinphaaGreatDoorKE9
import Derived.Test.YtllencgncinphaaGreatDoorKE29
namespace Go.Proofs.YtllencgncinphaaGreatDoor
open Go.RowKit
open Go.Lib (hid)
set_option maxRecDepth 20000
set_option maxHeartbeats 2000000

theorem IntRet.of_fresh {w wq : World} (hf : Fresh w wq) {b o : Nat} {vz : Value} {n : Int} {e : Ending} {w' : World} (h : IntRet wq b o vz n e w') : IntRet w b o vz n e w' := by
 obtain ⟨he, neg, v, l, h1, h2, h3, h4⟩ := h
 refine ⟨he, neg, v, l, h1, h2, hf.trans h3 (fun _ _ h => h.elim) (fun _ _ h => h), fun k hk => ?_⟩
 rcases h4 k hk with h | h
 · exact .inl h
 · exact .inr (Nat.le_trans hf.size h)

theorem NatOp.of_drew {w : World} {zv rv : Value} {l : List Nat} {w' : World} (h : NatOp w.drew zv rv l w') : NatOp w zv rv l w' := ⟨h.nat, h.keep.of_drew, h.own⟩

theorem fresh_drewN (w : World) (n : Nat) : Fresh w (w.drewN n) := (Keep.refl _ _).drewN n

theorem Int_Add (bz oz bx ox bY oy : Nat) (negz negx negy : Bool) (vz vx vy : Value) (lz lx ly : List Nat) (w : World) (hlx : lx.length < 1000000) (hly : ly.length < 1000000)
 (hz : IntIs w bz oz negz vz lz) (hx : IntIs w bx ox negx vx lx) (hy : IntIs w bY oy negy vy ly) (hsx : Sep vz vx) (hsy : Sep vz vy) :
 Calls Tryz.prog 114 #[.pointer (some ⟨bz, oz, none⟩), .pointer (some ⟨bx, ox, none⟩), .pointer (some ⟨bY, oy, none⟩)] w (IntRet w bz oz vz (ival negx lx + ival negy ly)) := by
 have cx0 := hx.str.c0; have cx1 := hx.str.c1; have cy0 := hy.str.c0; have cy1 := hy.str.c1; have cz0 := hz.str.c0; have cz1 := hz.str.c1; have fz0 := hz.str.f0; have fz1 := hz.str.f1
 have H_hz := hid hz; have H_hx := hid hx; have H_hy := hid hy; have H_hsx := hid hsx; have H_hsy := hid hsy; clear hz hx hy hsx hsy
 by_cases hs : negy = negx
 · have ts : (negx == negy) = true := by rw [hs]; cases negx <;> rfl
   have tn : (negx != negy) = false := by rw [hs]; cases negx <;> rfl
   have H_hs := hid hs; clear hs
   go_enter Tryz.func114, Tryz.ntmps114
   go_wp2_with (go_quiet (fail))
   have hz2 := H_hz.out.drewN nq; have hx2 := H_hx.out.drewN nq; have hy2 := H_hy.out.drewN nq; have kw := fresh_drewN w nq
   have hsx2 := H_hsx.out; have hsy2 := H_hsy.out
   clear H_hz H_hx H_hy H_hsx H_hsy cx0 cx1 cy0 cy1 cz0 cz1 fz0 fz1
   have H_kw := hid kw; clear kw
   generalize w.drewN nq = wq at *
   have cx0 := hx2.str.c0; have cx1 := hx2.str.c1; have cy0 := hy2.str.c0; have cy1 := hy2.str.c1; have cz0 := hz2.str.c0; have cz1 := hz2.str.c1; have fz0 := hz2.str.f0; have fz1 := hz2.str.f1
   have hz := hz2; have hx := hx2; have hy := hy2; have hsx := hsx2; have hsy := hsy2
   clear hz2 hx2 hy2 hsx2 hsy2
   have hadd : Calls Tryz.prog 145 #[vz, vx, vy] wq.drew (NatRet wq.drew vz (val lx + val ly)) := nat_add vz vx vy lz lx ly _ hlx hly hz.nat hx.nat hy.nat hx.norm hy.norm hsx hsy
   have hcmp : ∀ n, Calls Tryz.prog 146 #[vx, vy] (wq.drewN n) (Quiet (wq.drewN n) (.int .i64 (cmpN (val lx) (val ly)))) := fun n => nat_cmp vx vy lx ly _ (by omega) (by omega) hx.nat hy.nat hx.norm hy.norm
   have hsub : val ly ≤ val lx → ∀ n, Calls Tryz.prog 147 #[vz, vx, vy] (wq.drewN n).drew (NatRet (wq.drewN n).drew vz (val lx - val ly)) := fun hle n => nat_sub vz vx vy lz lx ly _ hlx hle hz.nat hx.nat hy.nat hx.norm hy.norm hsx hsy
   have hbus : val lx ≤ val ly → ∀ n, Calls Tryz.prog 147 #[vz, vy, vx] (wq.drewN n).drew (NatRet (wq.drewN n).drew vz (val ly - val lx)) := fun hle n => nat_sub vz vy vx lz ly lx _ hly hle hz.nat hy.nat hx.nat hy.norm hx.norm hsy hsx
   have nz : ∀ (_ : Unit), ¬ (vz.ownBlock = some bz) := fun _ e => IntIs.ne hz.str hz.nat e rfl
   have nx : ∀ (_ : Unit), ¬ (vz.ownBlock = some bx) := fun _ e => IntIs.ne hx.str hz.nat e rfl
   have ny : ∀ (_ : Unit), ¬ (vz.ownBlock = some bY) := fun _ e => IntIs.ne hy.str hz.nat e rfl
   have H_hz := hid hz; have H_hx := hid hx; have H_hy := hid hy; have H_hsx := hid hsx; have H_hsy := hid hsy; have H_hadd := hid hadd; have H_hcmp := hid hcmp; have H_hsub := hid hsub; have H_hbus := hid hbus; have H_nz := hid nz; have H_nx := hid nx; have H_ny := hid ny; clear hz hx hy hsx hsy hadd hcmp hsub hbus nz nx ny
   refine rgE (S := (fun (w' : World) => w'.cell? ⟨bz, oz + 1, none⟩ = some vz ∧ w'.cell? ⟨bx, ox + 1, none⟩ = some vx ∧ w'.cell? ⟨bY, oy + 1, none⟩ = some vy)) 16 (by kernel_rfl) (by exact ⟨cz1, cx1, cy1⟩) (fun hHeld => ?_)
   refine tkP (i := 0) (v := ?v0_1) rfl (by kernel_rfl) (fun _ _ _ h => h) ⟨by rfl, ?y0_1⟩ (by assumption) ?r0_1
   case y0_1 => (intro w; go_simp; try with_reducible rfl)
   try simp only [Act.put, yA, yB, yD, yE, yF]
   refine tkP (i := 1) (v := ?v1_1) rfl (by kernel_rfl) (fun _ _ _ h => h) ⟨by rfl, ?y1_1⟩ (by assumption) ?r1_1
   case y1_1 => (intro w; go_simp; try with_reducible rfl)
   try simp only [Act.put, yA, yB, yC, yD, yE, yF]
   refine tkP (i := 2) (v := ?v2_1) rfl (by kernel_rfl) (fun _ _ _ h => h) ⟨by rfl, ?y2_1⟩ (by assumption) ?r2_1
   case y2_1 => (intro w; go_simp; try with_reducible rfl)
   try simp only [Act.put, yA, yB, yC, yD, yE, yF]
   refine tkP (i := 3) (v := ?v3_1) rfl (by kernel_rfl) (fun _ _ _ h => h) ⟨by rfl, ?y3_1⟩ (by assumption) ?r3_1
   case y3_1 => (intro w; go_simp; try with_reducible rfl)
   try simp only [Act.put, yA, yB, yC, yD, yE, yF]
   refine tkL (i := 4) (c := 13) (v := ?v4_1) rfl (by kernel_rfl) (fun _ _ _ h => h) ⟨by rfl, ?y4_1⟩ (by assumption) ?r4_1
   case y4_1 => (intro w hSw; go_split_ands; go_simp; try with_reducible rfl)
   try simp only [Act.put, yA, yB, yC, yD, yE, yF]
   refine tkP (i := 5) (v := ?v5_1) rfl (by kernel_rfl) (fun _ _ _ h => h) ⟨by rfl, ?y5_1⟩ (by assumption) ?r5_1
   case y5_1 => (intro w; go_simp; try with_reducible rfl)
   try simp only [Act.put, yA, yB, yC, yD, yE, yF]
   refine tkP (i := 6) (v := ?v6_1) rfl (by kernel_rfl) (fun _ _ _ h => h) ⟨by rfl, ?y6_1⟩ (by assumption) ?r6_1
   case y6_1 => (intro w; go_simp; try with_reducible rfl)
   try simp only [Act.put, yA, yB, yC, yD, yE, yF]
   refine tkP (i := 7) (v := ?v7_1) rfl (by kernel_rfl) (fun _ _ _ h => h) ⟨by rfl, ?y7_1⟩ (by assumption) ?r7_1
   case y7_1 => (intro w; go_simp; try with_reducible rfl)
   try simp only [Act.put, yA, yB, yC, yD, yE, yF]
   refine tkL (i := 8) (c := 13) (v := ?v8_1) rfl (by kernel_rfl) (fun _ _ _ h => h) ⟨by rfl, ?y8_1⟩ (by assumption) ?r8_1
   case y8_1 => (intro w hSw; go_split_ands; go_simp; try with_reducible rfl)
   try simp only [Act.put, yA, yB, yC, yD, yE, yF]
   refine tkP (i := 9) (v := ?v9_1) rfl (by kernel_rfl) (fun _ _ _ h => h) ⟨by rfl, ?y9_1⟩ (by assumption) ?r9_1
   case y9_1 => (intro w; go_simp; try with_reducible rfl)
   try simp only [Act.put, yA, yB, yC, yD, yE, yF]
   refine tkP (i := 10) (v := ?v10_1) rfl (by kernel_rfl) (fun _ _ _ h => h) ⟨by rfl, ?y10_1⟩ (by assumption) ?r10_1
   case y10_1 => (intro w; go_simp; try with_reducible rfl)
   try simp only [Act.put, yA, yB, yC, yD, yE, yF]
   refine tkP (i := 11) (v := ?v11_1) rfl (by kernel_rfl) (fun _ _ _ h => h) ⟨by rfl, ?y11_1⟩ (by assumption) ?r11_1
   case y11_1 => (intro w; go_simp; try with_reducible rfl)
   try simp only [Act.put, yA, yB, yC, yD, yE, yF]
   refine tkL (i := 12) (c := 13) (v := ?v12_1) rfl (by kernel_rfl) (fun _ _ _ h => h) ⟨by rfl, ?y12_1⟩ (by assumption) ?r12_1
   case y12_1 => (intro w hSw; go_split_ands; go_simp; try with_reducible rfl)
   try simp only [Act.put, yA, yB, yC, yD, yE, yF]
   refine tkO (i := 13) rfl (by kernel_rfl) (fun K hK => ?_)
   go_simp
   refine H_hadd.out.mono ?_; rintro e w1 hr; obtain ⟨rv, l, rfl, hop, hnorm, hval⟩ := hr; have hop := hop.of_drew; have kz := (H_hz.out.str.keep hop.keep (H_nz.out ())).c1; have kx := (H_hx.out.str.keep hop.keep (H_nx.out ())).c1; have ky := (H_hy.out.str.keep hop.keep (H_ny.out ())).c1; have kf := (H_hz.out.str.keep hop.keep (H_nz.out ())).f1; have kf0 := (H_hz.out.str.keep hop.keep (H_nz.out ())).f0; have kz0 := (H_hz.out.str.keep hop.keep (H_nz.out ())).c0; obtain ⟨ra, rc, hrv⟩ := hop.nat.form; generalize hll : l.length = nl at *; subst hrv; have H_hop := hid hop; have H_hnorm := hid hnorm; have H_hval := hid hval; have H_hll := hid hll; clear hop hnorm hval hll
   go_wp2_with (fail)
   have hHeldB : ((fun (w' : World) => w'.cell? ⟨bz, oz + 1, none⟩ = some vz ∧ w'.cell? ⟨bx, ox + 1, none⟩ = some vx ∧ w'.cell? ⟨bY, oy + 1, none⟩ = some vy)) _ := ⟨kz, kx, ky⟩
   refine hK.out _ _ (fun _ => hHeldB) ?_
   clear hK K
   try simp only [Act.put, yA, yB, yC, yD, yE, yF]
   refine tkP (i := 14) (v := ?v14_1) rfl (by kernel_rfl) (fun _ _ _ h => h) ⟨by rfl, ?y14_1⟩ (by assumption) ?r14_1
   case y14_1 => (intro w; go_simp; try with_reducible rfl)
   try simp only [Act.put, yA, yB, yC, yD, yE, yF]
   refine tkP (i := 15) (v := ?v15_1) rfl (by kernel_rfl) (fun _ _ _ h => h) ⟨by rfl, ?y15_1⟩ (by assumption) ?r15_1
   case y15_1 => (intro w; go_simp; try with_reducible rfl)
   try simp only [Act.put, yA, yB, yC, yD, yE, yF]
   refine tkO (i := 16) rfl (by kernel_rfl) (fun K hK => ?_)
   go_simp
   refine hK.out _ _ (fun h => Bool.noConfusion (show true = false from h)) ?_
   clear hK K
   try simp only [Act.put, yA, yB, yC, yD, yE, yF]
   refine tkD (by kernel_rfl) ?_ _
   clear hHeldB
   by_cases hl0 : nl = 0
   · have t1 : decide (0 < nl) = false := by simp [hl0]
     have hl00 := hid hl0
     clear hl0
     go_wp2
     go_ret
     have hle : l = [] := List.eq_nil_of_length_eq_zero (by rw [H_hll.out]; exact hl00.out)
     refine IntRet.of_fresh H_kw.out ⟨rfl, IntIs.made H_hz.out.str H_hz.out.nat H_hop.out H_hnorm.out false (fun _ => rfl) _ ?_ rfl⟩
     have hv := H_hval.out
     rw [hle] at hv ⊢; rw [H_hs.out]; cases negx <;> simp [ival, val] at hv ⊢ <;> omega
   · have t1 : decide (0 < nl) = true := by simp; omega
     have hl00 := hid hl0
     clear hl0
     go_wp2
     go_ret
     have hle : l ≠ [] := fun e => hl00.out (by rw [← H_hll.out, e]; rfl)
     refine IntRet.of_fresh H_kw.out ⟨rfl, IntIs.made H_hz.out.str H_hz.out.nat H_hop.out H_hnorm.out negx (fun e => absurd e hle) _ ?_ rfl⟩
     have hv := H_hval.out
     rw [H_hs.out]; cases negx <;> simp [ival] <;> omega
 · have hs' : negy = !negx := by revert hs; cases negx <;> cases negy <;> simp
   have ts : (negx == negy) = false := by rw [hs']; cases negx <;> rfl
   have tn : (negx != negy) = true := by rw [hs']; cases negx <;> rfl
   clear hs
   have H_hs' := hid hs'; clear hs'
   go_enter Tryz.func114, Tryz.ntmps114
   go_wp2_with (go_quiet (fail))
   have hz2 := H_hz.out.drewN nq; have hx2 := H_hx.out.drewN nq; have hy2 := H_hy.out.drewN nq; have kw := fresh_drewN w nq
   have hsx2 := H_hsx.out; have hsy2 := H_hsy.out
   clear H_hz H_hx H_hy H_hsx H_hsy cx0 cx1 cy0 cy1 cz0 cz1 fz0 fz1
   have H_kw := hid kw; clear kw
   generalize w.drewN nq = wq at *
   have cx0 := hx2.str.c0; have cx1 := hx2.str.c1; have cy0 := hy2.str.c0; have cy1 := hy2.str.c1; have cz0 := hz2.str.c0; have cz1 := hz2.str.c1; have fz0 := hz2.str.f0; have fz1 := hz2.str.f1
   have hz := hz2; have hx := hx2; have hy := hy2; have hsx := hsx2; have hsy := hsy2
   clear hz2 hx2 hy2 hsx2 hsy2
   have hadd : Calls Tryz.prog 145 #[vz, vx, vy] wq.drew (NatRet wq.drew vz (val lx + val ly)) := nat_add vz vx vy lz lx ly _ hlx hly hz.nat hx.nat hy.nat hx.norm hy.norm hsx hsy
   have hcmp : ∀ n, Calls Tryz.prog 146 #[vx, vy] (wq.drewN n) (Quiet (wq.drewN n) (.int .i64 (cmpN (val lx) (val ly)))) := fun n => nat_cmp vx vy lx ly _ (by omega) (by omega) hx.nat hy.nat hx.norm hy.norm
   have hsub : val ly ≤ val lx → ∀ n, Calls Tryz.prog 147 #[vz, vx, vy] (wq.drewN n).drew (NatRet (wq.drewN n).drew vz (val lx - val ly)) := fun hle n => nat_sub vz vx vy lz lx ly _ hlx hle hz.nat hx.nat hy.nat hx.norm hy.norm hsx hsy
   have hbus : val lx ≤ val ly → ∀ n, Calls Tryz.prog 147 #[vz, vy, vx] (wq.drewN n).drew (NatRet (wq.drewN n).drew vz (val ly - val lx)) := fun hle n => nat_sub vz vy vx lz ly lx _ hly hle hz.nat hy.nat hx.nat hy.norm hx.norm hsy hsx
   have nz : ∀ (_ : Unit), ¬ (vz.ownBlock = some bz) := fun _ e => IntIs.ne hz.str hz.nat e rfl
   have nx : ∀ (_ : Unit), ¬ (vz.ownBlock = some bx) := fun _ e => IntIs.ne hx.str hz.nat e rfl
   have ny : ∀ (_ : Unit), ¬ (vz.ownBlock = some bY) := fun _ e => IntIs.ne hy.str hz.nat e rfl
   have H_hz := hid hz; have H_hx := hid hx; have H_hy := hid hy; have H_hsx := hid hsx; have H_hsy := hid hsy; have H_hadd := hid hadd; have H_hcmp := hid hcmp; have H_hsub := hid hsub; have H_hbus := hid hbus; have H_nz := hid nz; have H_nx := hid nx; have H_ny := hid ny; clear hz hx hy hsx hsy hadd hcmp hsub hbus nz nx ny
   by_cases hle : val ly ≤ val lx
   · have hc : decide ((0 : Int) ≤ cmpN (val lx) (val ly)) = true := by
      unfold cmpN; rw [if_neg (by omega)]; split <;> simp
     have hsub := H_hsub.out hle
     have H_hle := hid hle; have H_hsub := hid hsub; clear hle hsub
     go_wp2_with (go_quiet ((go_at_call 146; exact quietOf (H_hcmp.out _))))
     have hz2 := H_hz.out.drewN nq; have hx2 := H_hx.out.drewN nq; have hy2 := H_hy.out.drewN nq; have kw2 := H_kw.out.trans (fresh_drewN wq nq) (fun _ _ h => h) (fun _ _ h => h)
     have hcall := H_hsub.out nq
     clear H_hz H_hx H_hy cx0 cx1 cy0 cy1 cz0 cz1 fz0 fz1 H_kw H_hadd H_hcmp H_hsub H_hbus
     generalize wq.drewN nq = wr at *
     have cx0 := hx2.str.c0; have cx1 := hx2.str.c1; have cy0 := hy2.str.c0; have cy1 := hy2.str.c1; have cz0 := hz2.str.c0; have cz1 := hz2.str.c1; have fz0 := hz2.str.f0; have fz1 := hz2.str.f1
     have hz := hz2; have hx := hx2; have hy := hy2; have kw := kw2
     clear hz2 hx2 hy2 kw2
     have H_hz := hid hz; have H_hx := hid hx; have H_hy := hid hy; have H_kw := hid kw; have H_hcall := hid hcall; clear hz hx hy kw hcall
     refine rgE (S := (fun (w' : World) => w'.cell? ⟨bz, oz + 1, none⟩ = some vz ∧ w'.cell? ⟨bx, ox + 1, none⟩ = some vx ∧ w'.cell? ⟨bY, oy + 1, none⟩ = some vy)) 16 (by kernel_rfl) (by exact ⟨cz1, cx1, cy1⟩) (fun hHeld => ?_)
     refine tkP (i := 0) (v := ?v0_2) rfl (by kernel_rfl) (fun _ _ _ h => h) ⟨by rfl, ?y0_2⟩ (by assumption) ?r0_2
     case y0_2 => (intro w; go_simp; try with_reducible rfl)
     try simp only [Act.put, yA, yB, yD, yE, yF]
     refine tkP (i := 1) (v := ?v1_2) rfl (by kernel_rfl) (fun _ _ _ h => h) ⟨by rfl, ?y1_2⟩ (by assumption) ?r1_2
     case y1_2 => (intro w; go_simp; try with_reducible rfl)
     try simp only [Act.put, yA, yB, yC, yD, yE, yF]
     refine tkP (i := 2) (v := ?v2_2) rfl (by kernel_rfl) (fun _ _ _ h => h) ⟨by rfl, ?y2_2⟩ (by assumption) ?r2_2
     case y2_2 => (intro w; go_simp; try with_reducible rfl)
     try simp only [Act.put, yA, yB, yC, yD, yE, yF]
     refine tkP (i := 3) (v := ?v3_2) rfl (by kernel_rfl) (fun _ _ _ h => h) ⟨by rfl, ?y3_2⟩ (by assumption) ?r3_2
     case y3_2 => (intro w; go_simp; try with_reducible rfl)
     try simp only [Act.put, yA, yB, yC, yD, yE, yF]
     refine tkL (i := 4) (c := 13) (v := ?v4_2) rfl (by kernel_rfl) (fun _ _ _ h => h) ⟨by rfl, ?y4_2⟩ (by assumption) ?r4_2
     case y4_2 => (intro w hSw; go_split_ands; go_simp; try with_reducible rfl)
     try simp only [Act.put, yA, yB, yC, yD, yE, yF]
     refine tkP (i := 5) (v := ?v5_2) rfl (by kernel_rfl) (fun _ _ _ h => h) ⟨by rfl, ?y5_2⟩ (by assumption) ?r5_2
     case y5_2 => (intro w; go_simp; try with_reducible rfl)
     try simp only [Act.put, yA, yB, yC, yD, yE, yF]
     refine tkP (i := 6) (v := ?v6_2) rfl (by kernel_rfl) (fun _ _ _ h => h) ⟨by rfl, ?y6_2⟩ (by assumption) ?r6_2
     case y6_2 => (intro w; go_simp; try with_reducible rfl)
     try simp only [Act.put, yA, yB, yC, yD, yE, yF]
     refine tkP (i := 7) (v := ?v7_2) rfl (by kernel_rfl) (fun _ _ _ h => h) ⟨by rfl, ?y7_2⟩ (by assumption) ?r7_2
     case y7_2 => (intro w; go_simp; try with_reducible rfl)
     try simp only [Act.put, yA, yB, yC, yD, yE, yF]
     refine tkL (i := 8) (c := 13) (v := ?v8_2) rfl (by kernel_rfl) (fun _ _ _ h => h) ⟨by rfl, ?y8_2⟩ (by assumption) ?r8_2
     case y8_2 => (intro w hSw; go_split_ands; go_simp; try with_reducible rfl)
     try simp only [Act.put, yA, yB, yC, yD, yE, yF]
     refine tkP (i := 9) (v := ?v9_2) rfl (by kernel_rfl) (fun _ _ _ h => h) ⟨by rfl, ?y9_2⟩ (by assumption) ?r9_2
     case y9_2 => (intro w; go_simp; try with_reducible rfl)
     try simp only [Act.put, yA, yB, yC, yD, yE, yF]
     refine tkP (i := 10) (v := ?v10_2) rfl (by kernel_rfl) (fun _ _ _ h => h) ⟨by rfl, ?y10_2⟩ (by assumption) ?r10_2
     case y10_2 => (intro w; go_simp; try with_reducible rfl)
     try simp only [Act.put, yA, yB, yC, yD, yE, yF]
     refine tkP (i := 11) (v := ?v11_2) rfl (by kernel_rfl) (fun _ _ _ h => h) ⟨by rfl, ?y11_2⟩ (by assumption) ?r11_2
     case y11_2 => (intro w; go_simp; try with_reducible rfl)
     try simp only [Act.put, yA, yB, yC, yD, yE, yF]
     refine tkL (i := 12) (c := 13) (v := ?v12_2) rfl (by kernel_rfl) (fun _ _ _ h => h) ⟨by rfl, ?y12_2⟩ (by assumption) ?r12_2
     case y12_2 => (intro w hSw; go_split_ands; go_simp; try with_reducible rfl)
     try simp only [Act.put, yA, yB, yC, yD, yE, yF]
     refine tkO (i := 13) rfl (by kernel_rfl) (fun K hK => ?_)
     go_simp
     refine H_hcall.out.mono ?_; rintro e w1 hr; obtain ⟨rv, l, rfl, hop, hnorm, hval⟩ := hr; have hop := hop.of_drew; have kz := (H_hz.out.str.keep hop.keep (H_nz.out ())).c1; have kx := (H_hx.out.str.keep hop.keep (H_nx.out ())).c1; have ky := (H_hy.out.str.keep hop.keep (H_ny.out ())).c1; have kf := (H_hz.out.str.keep hop.keep (H_nz.out ())).f1; have kf0 := (H_hz.out.str.keep hop.keep (H_nz.out ())).f0; have kz0 := (H_hz.out.str.keep hop.keep (H_nz.out ())).c0; obtain ⟨ra, rc, hrv⟩ := hop.nat.form; generalize hll : l.length = nl at *; subst hrv; have H_hop := hid hop; have H_hnorm := hid hnorm; have H_hval := hid hval; have H_hll := hid hll; clear hop hnorm hval hll
     go_wp2_with (fail)
     have hHeldB : ((fun (w' : World) => w'.cell? ⟨bz, oz + 1, none⟩ = some vz ∧ w'.cell? ⟨bx, ox + 1, none⟩ = some vx ∧ w'.cell? ⟨bY, oy + 1, none⟩ = some vy)) _ := ⟨kz, kx, ky⟩
     refine hK.out _ _ (fun _ => hHeldB) ?_
     clear hK K
     try simp only [Act.put, yA, yB, yC, yD, yE, yF]
     refine tkP (i := 14) (v := ?v14_2) rfl (by kernel_rfl) (fun _ _ _ h => h) ⟨by rfl, ?y14_2⟩ (by assumption) ?r14_2
     case y14_2 => (intro w; go_simp; try with_reducible rfl)
     try simp only [Act.put, yA, yB, yC, yD, yE, yF]
     refine tkP (i := 15) (v := ?v15_2) rfl (by kernel_rfl) (fun _ _ _ h => h) ⟨by rfl, ?y15_2⟩ (by assumption) ?r15_2
     case y15_2 => (intro w; go_simp; try with_reducible rfl)
     try simp only [Act.put, yA, yB, yC, yD, yE, yF]
     refine tkO (i := 16) rfl (by kernel_rfl) (fun K hK => ?_)
     go_simp
     refine hK.out _ _ (fun h => Bool.noConfusion (show true = false from h)) ?_
     clear hK K
     try simp only [Act.put, yA, yB, yC, yD, yE, yF]
     refine tkD (by kernel_rfl) ?_ _
     clear hHeldB
     by_cases hl0 : nl = 0
     · have t1 : decide (0 < nl) = false := by simp [hl0]
       have hl00 := hid hl0
       clear hl0
       go_wp2
       go_ret
       have hle : l = [] := List.eq_nil_of_length_eq_zero (by rw [H_hll.out]; exact hl00.out)
       refine IntRet.of_fresh H_kw.out ⟨rfl, IntIs.made H_hz.out.str H_hz.out.nat H_hop.out H_hnorm.out false (fun _ => rfl) _ ?_ rfl⟩
       have hv := H_hval.out
       rw [hle] at hv ⊢; rw [H_hs'.out]; have := H_hle.out; cases negx <;> simp [ival, val] at hv ⊢ <;> omega
     · have t1 : decide (0 < nl) = true := by simp; omega
       have hl00 := hid hl0
       clear hl0
       go_wp2
       go_ret
       have hle : l ≠ [] := fun e => hl00.out (by rw [← H_hll.out, e]; rfl)
       refine IntRet.of_fresh H_kw.out ⟨rfl, IntIs.made H_hz.out.str H_hz.out.nat H_hop.out H_hnorm.out negx (fun e => absurd e hle) _ ?_ rfl⟩
       have hv := H_hval.out
       rw [H_hs'.out]; have := H_hle.out; cases negx <;> simp [ival] <;> omega
   · have hle' : val lx ≤ val ly := by omega
     have hc : decide ((0 : Int) ≤ cmpN (val lx) (val ly)) = false := by
      unfold cmpN; rw [if_pos (by omega)]; rfl
     have hbus := H_hbus.out hle'
     have H_hle := hid hle; have H_hle' := hid hle'; have H_hbus := hid hbus; clear hle hle' hbus
     go_wp2_with (go_quiet ((go_at_call 146; exact quietOf (H_hcmp.out _))))
     have hz2 := H_hz.out.drewN nq; have hx2 := H_hx.out.drewN nq; have hy2 := H_hy.out.drewN nq; have kw2 := H_kw.out.trans (fresh_drewN wq nq) (fun _ _ h => h) (fun _ _ h => h)
     have hcall := H_hbus.out nq
     clear H_hz H_hx H_hy cx0 cx1 cy0 cy1 cz0 cz1 fz0 fz1 H_kw H_hadd H_hcmp H_hsub H_hbus
     generalize wq.drewN nq = wr at *
     have cx0 := hx2.str.c0; have cx1 := hx2.str.c1; have cy0 := hy2.str.c0; have cy1 := hy2.str.c1; have cz0 := hz2.str.c0; have cz1 := hz2.str.c1; have fz0 := hz2.str.f0; have fz1 := hz2.str.f1
     have hz := hz2; have hx := hx2; have hy := hy2; have kw := kw2
     clear hz2 hx2 hy2 kw2
     have H_hz := hid hz; have H_hx := hid hx; have H_hy := hid hy; have H_kw := hid kw; have H_hcall := hid hcall; clear hz hx hy kw hcall
     refine rgE (S := (fun (w' : World) => w'.cell? ⟨bz, oz + 1, none⟩ = some vz ∧ w'.cell? ⟨bx, ox + 1, none⟩ = some vx ∧ w'.cell? ⟨bY, oy + 1, none⟩ = some vy)) 16 (by kernel_rfl) (by exact ⟨cz1, cx1, cy1⟩) (fun hHeld => ?_)
     refine tkP (i := 0) (v := ?v0_3) rfl (by kernel_rfl) (fun _ _ _ h => h) ⟨by rfl, ?y0_3⟩ (by assumption) ?r0_3
     case y0_3 => (intro w; go_simp; try with_reducible rfl)
     try simp only [Act.put, yA, yB, yD, yE, yF]
     refine tkP (i := 1) (v := ?v1_3) rfl (by kernel_rfl) (fun _ _ _ h => h) ⟨by rfl, ?y1_3⟩ (by assumption) ?r1_3
     case y1_3 => (intro w; go_simp; try with_reducible rfl)
     try simp only [Act.put, yA, yB, yC, yD, yE, yF]
     refine tkP (i := 2) (v := ?v2_3) rfl (by kernel_rfl) (fun _ _ _ h => h) ⟨by rfl, ?y2_3⟩ (by assumption) ?r2_3
     case y2_3 => (intro w; go_simp; try with_reducible rfl)
     try simp only [Act.put, yA, yB, yC, yD, yE, yF]
     refine tkP (i := 3) (v := ?v3_3) rfl (by kernel_rfl) (fun _ _ _ h => h) ⟨by rfl, ?y3_3⟩ (by assumption) ?r3_3
     case y3_3 => (intro w; go_simp; try with_reducible rfl)
     try simp only [Act.put, yA, yB, yC, yD, yE, yF]
     refine tkL (i := 4) (c := 13) (v := ?v4_3) rfl (by kernel_rfl) (fun _ _ _ h => h) ⟨by rfl, ?y4_3⟩ (by assumption) ?r4_3
     case y4_3 => (intro w hSw; go_split_ands; go_simp; try with_reducible rfl)
     try simp only [Act.put, yA, yB, yC, yD, yE, yF]
     refine tkP (i := 5) (v := ?v5_3) rfl (by kernel_rfl) (fun _ _ _ h => h) ⟨by rfl, ?y5_3⟩ (by assumption) ?r5_3
     case y5_3 => (intro w; go_simp; try with_reducible rfl)
     try simp only [Act.put, yA, yB, yC, yD, yE, yF]
     refine tkP (i := 6) (v := ?v6_3) rfl (by kernel_rfl) (fun _ _ _ h => h) ⟨by rfl, ?y6_3⟩ (by assumption) ?r6_3
     case y6_3 => (intro w; go_simp; try with_reducible rfl)
     try simp only [Act.put, yA, yB, yC, yD, yE, yF]
     refine tkP (i := 7) (v := ?v7_3) rfl (by kernel_rfl) (fun _ _ _ h => h) ⟨by rfl, ?y7_3⟩ (by assumption) ?r7_3
     case y7_3 => (intro w; go_simp; try with_reducible rfl)
     try simp only [Act.put, yA, yB, yC, yD, yE, yF]
     refine tkL (i := 8) (c := 13) (v := ?v8_3) rfl (by kernel_rfl) (fun _ _ _ h => h) ⟨by rfl, ?y8_3⟩ (by assumption) ?r8_3
     case y8_3 => (intro w hSw; go_split_ands; go_simp; try with_reducible rfl)
     try simp only [Act.put, yA, yB, yC, yD, yE, yF]
     refine tkP (i := 9) (v := ?v9_3) rfl (by kernel_rfl) (fun _ _ _ h => h) ⟨by rfl, ?y9_3⟩ (by assumption) ?r9_3
     case y9_3 => (intro w; go_simp; try with_reducible rfl)
     try simp only [Act.put, yA, yB, yC, yD, yE, yF]
     refine tkP (i := 10) (v := ?v10_3) rfl (by kernel_rfl) (fun _ _ _ h => h) ⟨by rfl, ?y10_3⟩ (by assumption) ?r10_3
     case y10_3 => (intro w; go_simp; try with_reducible rfl)
     try simp only [Act.put, yA, yB, yC, yD, yE, yF]
     refine tkP (i := 11) (v := ?v11_3) rfl (by kernel_rfl) (fun _ _ _ h => h) ⟨by rfl, ?y11_3⟩ (by assumption) ?r11_3
     case y11_3 => (intro w; go_simp; try with_reducible rfl)
     try simp only [Act.put, yA, yB, yC, yD, yE, yF]
     refine tkL (i := 12) (c := 13) (v := ?v12_3) rfl (by kernel_rfl) (fun _ _ _ h => h) ⟨by rfl, ?y12_3⟩ (by assumption) ?r12_3
     case y12_3 => (intro w hSw; go_split_ands; go_simp; try with_reducible rfl)
     try simp only [Act.put, yA, yB, yC, yD, yE, yF]
     refine tkO (i := 13) rfl (by kernel_rfl) (fun K hK => ?_)
     go_simp
     refine H_hcall.out.mono ?_; rintro e w1 hr; obtain ⟨rv, l, rfl, hop, hnorm, hval⟩ := hr; have hop := hop.of_drew; have kz := (H_hz.out.str.keep hop.keep (H_nz.out ())).c1; have kx := (H_hx.out.str.keep hop.keep (H_nx.out ())).c1; have ky := (H_hy.out.str.keep hop.keep (H_ny.out ())).c1; have kf := (H_hz.out.str.keep hop.keep (H_nz.out ())).f1; have kf0 := (H_hz.out.str.keep hop.keep (H_nz.out ())).f0; have kz0 := (H_hz.out.str.keep hop.keep (H_nz.out ())).c0; obtain ⟨ra, rc, hrv⟩ := hop.nat.form; generalize hll : l.length = nl at *; subst hrv; have H_hop := hid hop; have H_hnorm := hid hnorm; have H_hval := hid hval; have H_hll := hid hll; clear hop hnorm hval hll
     go_wp2_with (fail)
     have hHeldB : ((fun (w' : World) => w'.cell? ⟨bz, oz + 1, none⟩ = some vz ∧ w'.cell? ⟨bx, ox + 1, none⟩ = some vx ∧ w'.cell? ⟨bY, oy + 1, none⟩ = some vy)) _ := ⟨kz, kx, ky⟩
     refine hK.out _ _ (fun _ => hHeldB) ?_
     clear hK K
     try simp only [Act.put, yA, yB, yC, yD, yE, yF]
     refine tkP (i := 14) (v := ?v14_3) rfl (by kernel_rfl) (fun _ _ _ h => h) ⟨by rfl, ?y14_3⟩ (by assumption) ?r14_3
     case y14_3 => (intro w; go_simp; try with_reducible rfl)
     try simp only [Act.put, yA, yB, yC, yD, yE, yF]
     refine tkP (i := 15) (v := ?v15_3) rfl (by kernel_rfl) (fun _ _ _ h => h) ⟨by rfl, ?y15_3⟩ (by assumption) ?r15_3
     case y15_3 => (intro w; go_simp; try with_reducible rfl)
     try simp only [Act.put, yA, yB, yC, yD, yE, yF]
     refine tkO (i := 16) rfl (by kernel_rfl) (fun K hK => ?_)
     go_simp
     refine hK.out _ _ (fun h => Bool.noConfusion (show true = false from h)) ?_
     clear hK K
     try simp only [Act.put, yA, yB, yC, yD, yE, yF]
     refine tkD (by kernel_rfl) ?_ _
     clear hHeldB
     by_cases hl0 : nl = 0
     · have t1 : decide (0 < nl) = false := by simp [hl0]
       have hl00 := hid hl0
       clear hl0
       go_wp2
       go_ret
       have hle : l = [] := List.eq_nil_of_length_eq_zero (by rw [H_hll.out]; exact hl00.out)
       refine IntRet.of_fresh H_kw.out ⟨rfl, IntIs.made H_hz.out.str H_hz.out.nat H_hop.out H_hnorm.out false (fun _ => rfl) _ ?_ rfl⟩
       have hv := H_hval.out
       rw [hle] at hv ⊢; rw [H_hs'.out]; have := H_hle.out; cases negx <;> simp [ival, val] at hv ⊢ <;> omega
     · have t1 : decide (0 < nl) = true := by simp; omega
       have hl00 := hid hl0
       clear hl0
       go_wp2
       go_ret
       have hle : l ≠ [] := fun e => hl00.out (by rw [← H_hll.out, e]; rfl)
       refine IntRet.of_fresh H_kw.out ⟨rfl, IntIs.made H_hz.out.str H_hz.out.nat H_hop.out H_hnorm.out (!negx) (fun e => absurd e hle) _ ?_ rfl⟩
       have hv := H_hval.out
       rw [H_hs'.out]; have := H_hle.out; cases negx <;> simp [ival] <;> omega

theorem Int_Sub (bz oz bx ox bY oy : Nat) (negz negx negy : Bool) (vz vx vy : Value) (lz lx ly : List Nat) (w : World) (hlx : lx.length < 1000000) (hly : ly.length < 1000000)
 (hz : IntIs w bz oz negz vz lz) (hx : IntIs w bx ox negx vx lx) (hy : IntIs w bY oy negy vy ly) (hsx : Sep vz vx) (hsy : Sep vz vy) :
 Calls Tryz.prog 119 #[.pointer (some ⟨bz, oz, none⟩), .pointer (some ⟨bx, ox, none⟩), .pointer (some ⟨bY, oy, none⟩)] w (IntRet w bz oz vz (ival negx lx - ival negy ly)) := by
 have cx0 := hx.str.c0; have cx1 := hx.str.c1; have cy0 := hy.str.c0; have cy1 := hy.str.c1; have cz0 := hz.str.c0; have cz1 := hz.str.c1; have fz0 := hz.str.f0; have fz1 := hz.str.f1
 have H_hz := hid hz; have H_hx := hid hx; have H_hy := hid hy; have H_hsx := hid hsx; have H_hsy := hid hsy; clear hz hx hy hsx hsy
 by_cases hs : negy = !negx
 · have ts : (negx == negy) = false := by rw [hs]; cases negx <;> rfl
   have tn : (negx != negy) = true := by rw [hs]; cases negx <;> rfl
   have H_hs := hid hs; clear hs
   go_enter Tryz.func119, Tryz.ntmps119
   go_wp2_with (go_quiet (fail))
   have hz2 := H_hz.out.drewN nq; have hx2 := H_hx.out.drewN nq; have hy2 := H_hy.out.drewN nq; have kw := fresh_drewN w nq
   have hsx2 := H_hsx.out; have hsy2 := H_hsy.out
   clear H_hz H_hx H_hy H_hsx H_hsy cx0 cx1 cy0 cy1 cz0 cz1 fz0 fz1
   have H_kw := hid kw; clear kw
   generalize w.drewN nq = wq at *
   have cx0 := hx2.str.c0; have cx1 := hx2.str.c1; have cy0 := hy2.str.c0; have cy1 := hy2.str.c1; have cz0 := hz2.str.c0; have cz1 := hz2.str.c1; have fz0 := hz2.str.f0; have fz1 := hz2.str.f1
   have hz := hz2; have hx := hx2; have hy := hy2; have hsx := hsx2; have hsy := hsy2
   clear hz2 hx2 hy2 hsx2 hsy2
   have hadd : Calls Tryz.prog 145 #[vz, vx, vy] wq.drew (NatRet wq.drew vz (val lx + val ly)) := nat_add vz vx vy lz lx ly _ hlx hly hz.nat hx.nat hy.nat hx.norm hy.norm hsx hsy
   have hcmp : ∀ n, Calls Tryz.prog 146 #[vx, vy] (wq.drewN n) (Quiet (wq.drewN n) (.int .i64 (cmpN (val lx) (val ly)))) := fun n => nat_cmp vx vy lx ly _ (by omega) (by omega) hx.nat hy.nat hx.norm hy.norm
   have hsub : val ly ≤ val lx → ∀ n, Calls Tryz.prog 147 #[vz, vx, vy] (wq.drewN n).drew (NatRet (wq.drewN n).drew vz (val lx - val ly)) := fun hle n => nat_sub vz vx vy lz lx ly _ hlx hle hz.nat hx.nat hy.nat hx.norm hy.norm hsx hsy
   have hbus : val lx ≤ val ly → ∀ n, Calls Tryz.prog 147 #[vz, vy, vx] (wq.drewN n).drew (NatRet (wq.drewN n).drew vz (val ly - val lx)) := fun hle n => nat_sub vz vy vx lz ly lx _ hly hle hz.nat hy.nat hx.nat hy.norm hx.norm hsy hsx
   have nz : ∀ (_ : Unit), ¬ (vz.ownBlock = some bz) := fun _ e => IntIs.ne hz.str hz.nat e rfl
   have nx : ∀ (_ : Unit), ¬ (vz.ownBlock = some bx) := fun _ e => IntIs.ne hx.str hz.nat e rfl
   have ny : ∀ (_ : Unit), ¬ (vz.ownBlock = some bY) := fun _ e => IntIs.ne hy.str hz.nat e rfl
   have H_hz := hid hz; have H_hx := hid hx; have H_hy := hid hy; have H_hsx := hid hsx; have H_hsy := hid hsy; have H_hadd := hid hadd; have H_hcmp := hid hcmp; have H_hsub := hid hsub; have H_hbus := hid hbus; have H_nz := hid nz; have H_nx := hid nx; have H_ny := hid ny; clear hz hx hy hsx hsy hadd hcmp hsub hbus nz nx ny
   refine rgE (S := (fun (w' : World) => w'.cell? ⟨bz, oz + 1, none⟩ = some vz ∧ w'.cell? ⟨bx, ox + 1, none⟩ = some vx ∧ w'.cell? ⟨bY, oy + 1, none⟩ = some vy)) 16 (by kernel_rfl) (by exact ⟨cz1, cx1, cy1⟩) (fun hHeld => ?_)
   refine tkP (i := 0) (v := ?v0_4) rfl (by kernel_rfl) (fun _ _ _ h => h) ⟨by rfl, ?y0_4⟩ (by assumption) ?r0_4
   case y0_4 => (intro w; go_simp; try with_reducible rfl)
   try simp only [Act.put, yA, yB, yD, yE, yF]
   refine tkP (i := 1) (v := ?v1_4) rfl (by kernel_rfl) (fun _ _ _ h => h) ⟨by rfl, ?y1_4⟩ (by assumption) ?r1_4
   case y1_4 => (intro w; go_simp; try with_reducible rfl)
   try simp only [Act.put, yA, yB, yC, yD, yE, yF]
   refine tkP (i := 2) (v := ?v2_4) rfl (by kernel_rfl) (fun _ _ _ h => h) ⟨by rfl, ?y2_4⟩ (by assumption) ?r2_4
   case y2_4 => (intro w; go_simp; try with_reducible rfl)
   try simp only [Act.put, yA, yB, yC, yD, yE, yF]
   refine tkP (i := 3) (v := ?v3_4) rfl (by kernel_rfl) (fun _ _ _ h => h) ⟨by rfl, ?y3_4⟩ (by assumption) ?r3_4
   case y3_4 => (intro w; go_simp; try with_reducible rfl)
   try simp only [Act.put, yA, yB, yC, yD, yE, yF]
   refine tkL (i := 4) (c := 13) (v := ?v4_4) rfl (by kernel_rfl) (fun _ _ _ h => h) ⟨by rfl, ?y4_4⟩ (by assumption) ?r4_4
   case y4_4 => (intro w hSw; go_split_ands; go_simp; try with_reducible rfl)
   try simp only [Act.put, yA, yB, yC, yD, yE, yF]
   refine tkP (i := 5) (v := ?v5_4) rfl (by kernel_rfl) (fun _ _ _ h => h) ⟨by rfl, ?y5_4⟩ (by assumption) ?r5_4
   case y5_4 => (intro w; go_simp; try with_reducible rfl)
   try simp only [Act.put, yA, yB, yC, yD, yE, yF]
   refine tkP (i := 6) (v := ?v6_4) rfl (by kernel_rfl) (fun _ _ _ h => h) ⟨by rfl, ?y6_4⟩ (by assumption) ?r6_4
   case y6_4 => (intro w; go_simp; try with_reducible rfl)
   try simp only [Act.put, yA, yB, yC, yD, yE, yF]
   refine tkP (i := 7) (v := ?v7_4) rfl (by kernel_rfl) (fun _ _ _ h => h) ⟨by rfl, ?y7_4⟩ (by assumption) ?r7_4
   case y7_4 => (intro w; go_simp; try with_reducible rfl)
   try simp only [Act.put, yA, yB, yC, yD, yE, yF]
   refine tkL (i := 8) (c := 13) (v := ?v8_4) rfl (by kernel_rfl) (fun _ _ _ h => h) ⟨by rfl, ?y8_4⟩ (by assumption) ?r8_4
   case y8_4 => (intro w hSw; go_split_ands; go_simp; try with_reducible rfl)
   try simp only [Act.put, yA, yB, yC, yD, yE, yF]
   refine tkP (i := 9) (v := ?v9_4) rfl (by kernel_rfl) (fun _ _ _ h => h) ⟨by rfl, ?y9_4⟩ (by assumption) ?r9_4
   case y9_4 => (intro w; go_simp; try with_reducible rfl)
   try simp only [Act.put, yA, yB, yC, yD, yE, yF]
   refine tkP (i := 10) (v := ?v10_4) rfl (by kernel_rfl) (fun _ _ _ h => h) ⟨by rfl, ?y10_4⟩ (by assumption) ?r10_4
   case y10_4 => (intro w; go_simp; try with_reducible rfl)
   try simp only [Act.put, yA, yB, yC, yD, yE, yF]
   refine tkP (i := 11) (v := ?v11_4) rfl (by kernel_rfl) (fun _ _ _ h => h) ⟨by rfl, ?y11_4⟩ (by assumption) ?r11_4
   case y11_4 => (intro w; go_simp; try with_reducible rfl)
   try simp only [Act.put, yA, yB, yC, yD, yE, yF]
   refine tkL (i := 12) (c := 13) (v := ?v12_4) rfl (by kernel_rfl) (fun _ _ _ h => h) ⟨by rfl, ?y12_4⟩ (by assumption) ?r12_4
   case y12_4 => (intro w hSw; go_split_ands; go_simp; try with_reducible rfl)
   try simp only [Act.put, yA, yB, yC, yD, yE, yF]
   refine tkO (i := 13) rfl (by kernel_rfl) (fun K hK => ?_)
   go_simp
   refine H_hadd.out.mono ?_; rintro e w1 hr; obtain ⟨rv, l, rfl, hop, hnorm, hval⟩ := hr; have hop := hop.of_drew; have kz := (H_hz.out.str.keep hop.keep (H_nz.out ())).c1; have kx := (H_hx.out.str.keep hop.keep (H_nx.out ())).c1; have ky := (H_hy.out.str.keep hop.keep (H_ny.out ())).c1; have kf := (H_hz.out.str.keep hop.keep (H_nz.out ())).f1; have kf0 := (H_hz.out.str.keep hop.keep (H_nz.out ())).f0; have kz0 := (H_hz.out.str.keep hop.keep (H_nz.out ())).c0; obtain ⟨ra, rc, hrv⟩ := hop.nat.form; generalize hll : l.length = nl at *; subst hrv; have H_hop := hid hop; have H_hnorm := hid hnorm; have H_hval := hid hval; have H_hll := hid hll; clear hop hnorm hval hll
   go_wp2_with (fail)
   have hHeldB : ((fun (w' : World) => w'.cell? ⟨bz, oz + 1, none⟩ = some vz ∧ w'.cell? ⟨bx, ox + 1, none⟩ = some vx ∧ w'.cell? ⟨bY, oy + 1, none⟩ = some vy)) _ := ⟨kz, kx, ky⟩
   refine hK.out _ _ (fun _ => hHeldB) ?_
   clear hK K
   try simp only [Act.put, yA, yB, yC, yD, yE, yF]
   refine tkP (i := 14) (v := ?v14_4) rfl (by kernel_rfl) (fun _ _ _ h => h) ⟨by rfl, ?y14_4⟩ (by assumption) ?r14_4
   case y14_4 => (intro w; go_simp; try with_reducible rfl)
   try simp only [Act.put, yA, yB, yC, yD, yE, yF]
   refine tkP (i := 15) (v := ?v15_4) rfl (by kernel_rfl) (fun _ _ _ h => h) ⟨by rfl, ?y15_4⟩ (by assumption) ?r15_4
   case y15_4 => (intro w; go_simp; try with_reducible rfl)
   try simp only [Act.put, yA, yB, yC, yD, yE, yF]
   refine tkO (i := 16) rfl (by kernel_rfl) (fun K hK => ?_)
   go_simp
   refine hK.out _ _ (fun h => Bool.noConfusion (show true = false from h)) ?_
   clear hK K
   try simp only [Act.put, yA, yB, yC, yD, yE, yF]
   refine tkD (by kernel_rfl) ?_ _
   clear hHeldB
   by_cases hl0 : nl = 0
   · have t1 : decide (0 < nl) = false := by simp [hl0]
     have hl00 := hid hl0
     clear hl0
     go_wp2
     go_ret
     have hle : l = [] := List.eq_nil_of_length_eq_zero (by rw [H_hll.out]; exact hl00.out)
     refine IntRet.of_fresh H_kw.out ⟨rfl, IntIs.made H_hz.out.str H_hz.out.nat H_hop.out H_hnorm.out false (fun _ => rfl) _ ?_ rfl⟩
     have hv := H_hval.out
     rw [hle] at hv ⊢; rw [H_hs.out]; cases negx <;> simp [ival, val] at hv ⊢ <;> omega
   · have t1 : decide (0 < nl) = true := by simp; omega
     have hl00 := hid hl0
     clear hl0
     go_wp2
     go_ret
     have hle : l ≠ [] := fun e => hl00.out (by rw [← H_hll.out, e]; rfl)
     refine IntRet.of_fresh H_kw.out ⟨rfl, IntIs.made H_hz.out.str H_hz.out.nat H_hop.out H_hnorm.out negx (fun e => absurd e hle) _ ?_ rfl⟩
     have hv := H_hval.out
     rw [H_hs.out]; cases negx <;> simp [ival] <;> omega
 · have hs' : negy = negx := by revert hs; cases negx <;> cases negy <;> simp
   have ts : (negx == negy) = true := by rw [hs']; cases negx <;> rfl
   have tn : (negx != negy) = false := by rw [hs']; cases negx <;> rfl
   clear hs
   have H_hs' := hid hs'; clear hs'
   go_enter Tryz.func119, Tryz.ntmps119
   go_wp2_with (go_quiet (fail))
   have hz2 := H_hz.out.drewN nq; have hx2 := H_hx.out.drewN nq; have hy2 := H_hy.out.drewN nq; have kw := fresh_drewN w nq
   have hsx2 := H_hsx.out; have hsy2 := H_hsy.out
   clear H_hz H_hx H_hy H_hsx H_hsy cx0 cx1 cy0 cy1 cz0 cz1 fz0 fz1
   have H_kw := hid kw; clear kw
   generalize w.drewN nq = wq at *
   have cx0 := hx2.str.c0; have cx1 := hx2.str.c1; have cy0 := hy2.str.c0; have cy1 := hy2.str.c1; have cz0 := hz2.str.c0; have cz1 := hz2.str.c1; have fz0 := hz2.str.f0; have fz1 := hz2.str.f1
   have hz := hz2; have hx := hx2; have hy := hy2; have hsx := hsx2; have hsy := hsy2
   clear hz2 hx2 hy2 hsx2 hsy2
   have hadd : Calls Tryz.prog 145 #[vz, vx, vy] wq.drew (NatRet wq.drew vz (val lx + val ly)) := nat_add vz vx vy lz lx ly _ hlx hly hz.nat hx.nat hy.nat hx.norm hy.norm hsx hsy
   have hcmp : ∀ n, Calls Tryz.prog 146 #[vx, vy] (wq.drewN n) (Quiet (wq.drewN n) (.int .i64 (cmpN (val lx) (val ly)))) := fun n => nat_cmp vx vy lx ly _ (by omega) (by omega) hx.nat hy.nat hx.norm hy.norm
   have hsub : val ly ≤ val lx → ∀ n, Calls Tryz.prog 147 #[vz, vx, vy] (wq.drewN n).drew (NatRet (wq.drewN n).drew vz (val lx - val ly)) := fun hle n => nat_sub vz vx vy lz lx ly _ hlx hle hz.nat hx.nat hy.nat hx.norm hy.norm hsx hsy
   have hbus : val lx ≤ val ly → ∀ n, Calls Tryz.prog 147 #[vz, vy, vx] (wq.drewN n).drew (NatRet (wq.drewN n).drew vz (val ly - val lx)) := fun hle n => nat_sub vz vy vx lz ly lx _ hly hle hz.nat hy.nat hx.nat hy.norm hx.norm hsy hsx
   have nz : ∀ (_ : Unit), ¬ (vz.ownBlock = some bz) := fun _ e => IntIs.ne hz.str hz.nat e rfl
   have nx : ∀ (_ : Unit), ¬ (vz.ownBlock = some bx) := fun _ e => IntIs.ne hx.str hz.nat e rfl
   have ny : ∀ (_ : Unit), ¬ (vz.ownBlock = some bY) := fun _ e => IntIs.ne hy.str hz.nat e rfl
   have H_hz := hid hz; have H_hx := hid hx; have H_hy := hid hy; have H_hsx := hid hsx; have H_hsy := hid hsy; have H_hadd := hid hadd; have H_hcmp := hid hcmp; have H_hsub := hid hsub; have H_hbus := hid hbus; have H_nz := hid nz; have H_nx := hid nx; have H_ny := hid ny; clear hz hx hy hsx hsy hadd hcmp hsub hbus nz nx ny
   by_cases hle : val ly ≤ val lx
   · have hc : decide ((0 : Int) ≤ cmpN (val lx) (val ly)) = true := by
      unfold cmpN; rw [if_neg (by omega)]; split <;> simp
     have hsub := H_hsub.out hle
     have H_hle := hid hle; have H_hsub := hid hsub; clear hle hsub
     go_wp2_with (go_quiet ((go_at_call 146; exact quietOf (H_hcmp.out _))))
     have hz2 := H_hz.out.drewN nq; have hx2 := H_hx.out.drewN nq; have hy2 := H_hy.out.drewN nq; have kw2 := H_kw.out.trans (fresh_drewN wq nq) (fun _ _ h => h) (fun _ _ h => h)
     have hcall := H_hsub.out nq
     clear H_hz H_hx H_hy cx0 cx1 cy0 cy1 cz0 cz1 fz0 fz1 H_kw H_hadd H_hcmp H_hsub H_hbus
     generalize wq.drewN nq = wr at *
     have cx0 := hx2.str.c0; have cx1 := hx2.str.c1; have cy0 := hy2.str.c0; have cy1 := hy2.str.c1; have cz0 := hz2.str.c0; have cz1 := hz2.str.c1; have fz0 := hz2.str.f0; have fz1 := hz2.str.f1
     have hz := hz2; have hx := hx2; have hy := hy2; have kw := kw2
     clear hz2 hx2 hy2 kw2
     have H_hz := hid hz; have H_hx := hid hx; have H_hy := hid hy; have H_kw := hid kw; have H_hcall := hid hcall; clear hz hx hy kw hcall
     refine rgE (S := (fun (w' : World) => w'.cell? ⟨bz, oz + 1, none⟩ = some vz ∧ w'.cell? ⟨bx, ox + 1, none⟩ = some vx ∧ w'.cell? ⟨bY, oy + 1, none⟩ = some vy)) 16 (by kernel_rfl) (by exact ⟨cz1, cx1, cy1⟩) (fun hHeld => ?_)
     refine tkP (i := 0) (v := ?v0_5) rfl (by kernel_rfl) (fun _ _ _ h => h) ⟨by rfl, ?y0_5⟩ (by assumption) ?r0_5
     case y0_5 => (intro w; go_simp; try with_reducible rfl)
     try simp only [Act.put, yA, yB, yD, yE, yF]
     refine tkP (i := 1) (v := ?v1_5) rfl (by kernel_rfl) (fun _ _ _ h => h) ⟨by rfl, ?y1_5⟩ (by assumption) ?r1_5
     case y1_5 => (intro w; go_simp; try with_reducible rfl)
     try simp only [Act.put, yA, yB, yC, yD, yE, yF]
     refine tkP (i := 2) (v := ?v2_5) rfl (by kernel_rfl) (fun _ _ _ h => h) ⟨by rfl, ?y2_5⟩ (by assumption) ?r2_5
     case y2_5 => (intro w; go_simp; try with_reducible rfl)
     try simp only [Act.put, yA, yB, yC, yD, yE, yF]
     refine tkP (i := 3) (v := ?v3_5) rfl (by kernel_rfl) (fun _ _ _ h => h) ⟨by rfl, ?y3_5⟩ (by assumption) ?r3_5
     case y3_5 => (intro w; go_simp; try with_reducible rfl)
     try simp only [Act.put, yA, yB, yC, yD, yE, yF]
     refine tkL (i := 4) (c := 13) (v := ?v4_5) rfl (by kernel_rfl) (fun _ _ _ h => h) ⟨by rfl, ?y4_5⟩ (by assumption) ?r4_5
     case y4_5 => (intro w hSw; go_split_ands; go_simp; try with_reducible rfl)
     try simp only [Act.put, yA, yB, yC, yD, yE, yF]
     refine tkP (i := 5) (v := ?v5_5) rfl (by kernel_rfl) (fun _ _ _ h => h) ⟨by rfl, ?y5_5⟩ (by assumption) ?r5_5
     case y5_5 => (intro w; go_simp; try with_reducible rfl)
     try simp only [Act.put, yA, yB, yC, yD, yE, yF]
     refine tkP (i := 6) (v := ?v6_5) rfl (by kernel_rfl) (fun _ _ _ h => h) ⟨by rfl, ?y6_5⟩ (by assumption) ?r6_5
     case y6_5 => (intro w; go_simp; try with_reducible rfl)
     try simp only [Act.put, yA, yB, yC, yD, yE, yF]
     refine tkP (i := 7) (v := ?v7_5) rfl (by kernel_rfl) (fun _ _ _ h => h) ⟨by rfl, ?y7_5⟩ (by assumption) ?r7_5
     case y7_5 => (intro w; go_simp; try with_reducible rfl)
     try simp only [Act.put, yA, yB, yC, yD, yE, yF]
     refine tkL (i := 8) (c := 13) (v := ?v8_5) rfl (by kernel_rfl) (fun _ _ _ h => h) ⟨by rfl, ?y8_5⟩ (by assumption) ?r8_5
     case y8_5 => (intro w hSw; go_split_ands; go_simp; try with_reducible rfl)
     try simp only [Act.put, yA, yB, yC, yD, yE, yF]
     refine tkP (i := 9) (v := ?v9_5) rfl (by kernel_rfl) (fun _ _ _ h => h) ⟨by rfl, ?y9_5⟩ (by assumption) ?r9_5
     case y9_5 => (intro w; go_simp; try with_reducible rfl)
     try simp only [Act.put, yA, yB, yC, yD, yE, yF]
     refine tkP (i := 10) (v := ?v10_5) rfl (by kernel_rfl) (fun _ _ _ h => h) ⟨by rfl, ?y10_5⟩ (by assumption) ?r10_5
     case y10_5 => (intro w; go_simp; try with_reducible rfl)
     try simp only [Act.put, yA, yB, yC, yD, yE, yF]
     refine tkP (i := 11) (v := ?v11_5) rfl (by kernel_rfl) (fun _ _ _ h => h) ⟨by rfl, ?y11_5⟩ (by assumption) ?r11_5
     case y11_5 => (intro w; go_simp; try with_reducible rfl)
     try simp only [Act.put, yA, yB, yC, yD, yE, yF]
     refine tkL (i := 12) (c := 13) (v := ?v12_5) rfl (by kernel_rfl) (fun _ _ _ h => h) ⟨by rfl, ?y12_5⟩ (by assumption) ?r12_5
     case y12_5 => (intro w hSw; go_split_ands; go_simp; try with_reducible rfl)
     try simp only [Act.put, yA, yB, yC, yD, yE, yF]
     refine tkO (i := 13) rfl (by kernel_rfl) (fun K hK => ?_)
     go_simp
     refine H_hcall.out.mono ?_; rintro e w1 hr; obtain ⟨rv, l, rfl, hop, hnorm, hval⟩ := hr; have hop := hop.of_drew; have kz := (H_hz.out.str.keep hop.keep (H_nz.out ())).c1; have kx := (H_hx.out.str.keep hop.keep (H_nx.out ())).c1; have ky := (H_hy.out.str.keep hop.keep (H_ny.out ())).c1; have kf := (H_hz.out.str.keep hop.keep (H_nz.out ())).f1; have kf0 := (H_hz.out.str.keep hop.keep (H_nz.out ())).f0; have kz0 := (H_hz.out.str.keep hop.keep (H_nz.out ())).c0; obtain ⟨ra, rc, hrv⟩ := hop.nat.form; generalize hll : l.length = nl at *; subst hrv; have H_hop := hid hop; have H_hnorm := hid hnorm; have H_hval := hid hval; have H_hll := hid hll; clear hop hnorm hval hll
     go_wp2_with (fail)
     have hHeldB : ((fun (w' : World) => w'.cell? ⟨bz, oz + 1, none⟩ = some vz ∧ w'.cell? ⟨bx, ox + 1, none⟩ = some vx ∧ w'.cell? ⟨bY, oy + 1, none⟩ = some vy)) _ := ⟨kz, kx, ky⟩
     refine hK.out _ _ (fun _ => hHeldB) ?_
     clear hK K
     try simp only [Act.put, yA, yB, yC, yD, yE, yF]
     refine tkP (i := 14) (v := ?v14_5) rfl (by kernel_rfl) (fun _ _ _ h => h) ⟨by rfl, ?y14_5⟩ (by assumption) ?r14_5
     case y14_5 => (intro w; go_simp; try with_reducible rfl)
     try simp only [Act.put, yA, yB, yC, yD, yE, yF]
     refine tkP (i := 15) (v := ?v15_5) rfl (by kernel_rfl) (fun _ _ _ h => h) ⟨by rfl, ?y15_5⟩ (by assumption) ?r15_5
     case y15_5 => (intro w; go_simp; try with_reducible rfl)
     try simp only [Act.put, yA, yB, yC, yD, yE, yF]
     refine tkO (i := 16) rfl (by kernel_rfl) (fun K hK => ?_)
     go_simp
     refine hK.out _ _ (fun h => Bool.noConfusion (show true = false from h)) ?_
     clear hK K
     try simp only [Act.put, yA, yB, yC, yD, yE, yF]
     refine tkD (by kernel_rfl) ?_ _
     clear hHeldB
     by_cases hl0 : nl = 0
     · have t1 : decide (0 < nl) = false := by simp [hl0]
       have hl00 := hid hl0
       clear hl0
       go_wp2
       go_ret
       have hle : l = [] := List.eq_nil_of_length_eq_zero (by rw [H_hll.out]; exact hl00.out)
       refine IntRet.of_fresh H_kw.out ⟨rfl, IntIs.made H_hz.out.str H_hz.out.nat H_hop.out H_hnorm.out false (fun _ => rfl) _ ?_ rfl⟩
       have hv := H_hval.out
       rw [hle] at hv ⊢; rw [H_hs'.out]; have := H_hle.out; cases negx <;> simp [ival, val] at hv ⊢ <;> omega
     · have t1 : decide (0 < nl) = true := by simp; omega
       have hl00 := hid hl0
       clear hl0
       go_wp2
       go_ret
       have hle : l ≠ [] := fun e => hl00.out (by rw [← H_hll.out, e]; rfl)
       refine IntRet.of_fresh H_kw.out ⟨rfl, IntIs.made H_hz.out.str H_hz.out.nat H_hop.out H_hnorm.out negx (fun e => absurd e hle) _ ?_ rfl⟩
       have hv := H_hval.out
       rw [H_hs'.out]; have := H_hle.out; cases negx <;> simp [ival] <;> omega
   · have hle' : val lx ≤ val ly := by omega
     have hc : decide ((0 : Int) ≤ cmpN (val lx) (val ly)) = false := by
      unfold cmpN; rw [if_pos (by omega)]; rfl
     have hbus := H_hbus.out hle'
     have H_hle := hid hle; have H_hle' := hid hle'; have H_hbus := hid hbus; clear hle hle' hbus
     go_wp2_with (go_quiet ((go_at_call 146; exact quietOf (H_hcmp.out _))))
     have hz2 := H_hz.out.drewN nq; have hx2 := H_hx.out.drewN nq; have hy2 := H_hy.out.drewN nq; have kw2 := H_kw.out.trans (fresh_drewN wq nq) (fun _ _ h => h) (fun _ _ h => h)
     have hcall := H_hbus.out nq
     clear H_hz H_hx H_hy cx0 cx1 cy0 cy1 cz0 cz1 fz0 fz1 H_kw H_hadd H_hcmp H_hsub H_hbus
     generalize wq.drewN nq = wr at *
     have cx0 := hx2.str.c0; have cx1 := hx2.str.c1; have cy0 := hy2.str.c0; have cy1 := hy2.str.c1; have cz0 := hz2.str.c0; have cz1 := hz2.str.c1; have fz0 := hz2.str.f0; have fz1 := hz2.str.f1
     have hz := hz2; have hx := hx2; have hy := hy2; have kw := kw2
     clear hz2 hx2 hy2 kw2
     have H_hz := hid hz; have H_hx := hid hx; have H_hy := hid hy; have H_kw := hid kw; have H_hcall := hid hcall; clear hz hx hy kw hcall
     refine rgE (S := (fun (w' : World) => w'.cell? ⟨bz, oz + 1, none⟩ = some vz ∧ w'.cell? ⟨bx, ox + 1, none⟩ = some vx ∧ w'.cell? ⟨bY, oy + 1, none⟩ = some vy)) 16 (by kernel_rfl) (by exact ⟨cz1, cx1, cy1⟩) (fun hHeld => ?_)
     refine tkP (i := 0) (v := ?v0_6) rfl (by kernel_rfl) (fun _ _ _ h => h) ⟨by rfl, ?y0_6⟩ (by assumption) ?r0_6
     case y0_6 => (intro w; go_simp; try with_reducible rfl)
     try simp only [Act.put, yA, yB, yD, yE, yF]
     refine tkP (i := 1) (v := ?v1_6) rfl (by kernel_rfl) (fun _ _ _ h => h) ⟨by rfl, ?y1_6⟩ (by assumption) ?r1_6
     case y1_6 => (intro w; go_simp; try with_reducible rfl)
     try simp only [Act.put, yA, yB, yC, yD, yE, yF]
     refine tkP (i := 2) (v := ?v2_6) rfl (by kernel_rfl) (fun _ _ _ h => h) ⟨by rfl, ?y2_6⟩ (by assumption) ?r2_6
     case y2_6 => (intro w; go_simp; try with_reducible rfl)
     try simp only [Act.put, yA, yB, yC, yD, yE, yF]
     refine tkP (i := 3) (v := ?v3_6) rfl (by kernel_rfl) (fun _ _ _ h => h) ⟨by rfl, ?y3_6⟩ (by assumption) ?r3_6
     case y3_6 => (intro w; go_simp; try with_reducible rfl)
     try simp only [Act.put, yA, yB, yC, yD, yE, yF]
     refine tkL (i := 4) (c := 13) (v := ?v4_6) rfl (by kernel_rfl) (fun _ _ _ h => h) ⟨by rfl, ?y4_6⟩ (by assumption) ?r4_6
     case y4_6 => (intro w hSw; go_split_ands; go_simp; try with_reducible rfl)
     try simp only [Act.put, yA, yB, yC, yD, yE, yF]
     refine tkP (i := 5) (v := ?v5_6) rfl (by kernel_rfl) (fun _ _ _ h => h) ⟨by rfl, ?y5_6⟩ (by assumption) ?r5_6
     case y5_6 => (intro w; go_simp; try with_reducible rfl)
     try simp only [Act.put, yA, yB, yC, yD, yE, yF]
     refine tkP (i := 6) (v := ?v6_6) rfl (by kernel_rfl) (fun _ _ _ h => h) ⟨by rfl, ?y6_6⟩ (by assumption) ?r6_6
     case y6_6 => (intro w; go_simp; try with_reducible rfl)
     try simp only [Act.put, yA, yB, yC, yD, yE, yF]
     refine tkP (i := 7) (v := ?v7_6) rfl (by kernel_rfl) (fun _ _ _ h => h) ⟨by rfl, ?y7_6⟩ (by assumption) ?r7_6
     case y7_6 => (intro w; go_simp; try with_reducible rfl)
     try simp only [Act.put, yA, yB, yC, yD, yE, yF]
     refine tkL (i := 8) (c := 13) (v := ?v8_6) rfl (by kernel_rfl) (fun _ _ _ h => h) ⟨by rfl, ?y8_6⟩ (by assumption) ?r8_6
     case y8_6 => (intro w hSw; go_split_ands; go_simp; try with_reducible rfl)
     try simp only [Act.put, yA, yB, yC, yD, yE, yF]
     refine tkP (i := 9) (v := ?v9_6) rfl (by kernel_rfl) (fun _ _ _ h => h) ⟨by rfl, ?y9_6⟩ (by assumption) ?r9_6
     case y9_6 => (intro w; go_simp; try with_reducible rfl)
     try simp only [Act.put, yA, yB, yC, yD, yE, yF]
     refine tkP (i := 10) (v := ?v10_6) rfl (by kernel_rfl) (fun _ _ _ h => h) ⟨by rfl, ?y10_6⟩ (by assumption) ?r10_6
     case y10_6 => (intro w; go_simp; try with_reducible rfl)
     try simp only [Act.put, yA, yB, yC, yD, yE, yF]
     refine tkP (i := 11) (v := ?v11_6) rfl (by kernel_rfl) (fun _ _ _ h => h) ⟨by rfl, ?y11_6⟩ (by assumption) ?r11_6
     case y11_6 => (intro w; go_simp; try with_reducible rfl)
     try simp only [Act.put, yA, yB, yC, yD, yE, yF]
     refine tkL (i := 12) (c := 13) (v := ?v12_6) rfl (by kernel_rfl) (fun _ _ _ h => h) ⟨by rfl, ?y12_6⟩ (by assumption) ?r12_6
     case y12_6 => (intro w hSw; go_split_ands; go_simp; try with_reducible rfl)
     try simp only [Act.put, yA, yB, yC, yD, yE, yF]
     refine tkO (i := 13) rfl (by kernel_rfl) (fun K hK => ?_)
     go_simp
     refine H_hcall.out.mono ?_; rintro e w1 hr; obtain ⟨rv, l, rfl, hop, hnorm, hval⟩ := hr; have hop := hop.of_drew; have kz := (H_hz.out.str.keep hop.keep (H_nz.out ())).c1; have kx := (H_hx.out.str.keep hop.keep (H_nx.out ())).c1; have ky := (H_hy.out.str.keep hop.keep (H_ny.out ())).c1; have kf := (H_hz.out.str.keep hop.keep (H_nz.out ())).f1; have kf0 := (H_hz.out.str.keep hop.keep (H_nz.out ())).f0; have kz0 := (H_hz.out.str.keep hop.keep (H_nz.out ())).c0; obtain ⟨ra, rc, hrv⟩ := hop.nat.form; generalize hll : l.length = nl at *; subst hrv; have H_hop := hid hop; have H_hnorm := hid hnorm; have H_hval := hid hval; have H_hll := hid hll; clear hop hnorm hval hll
     go_wp2_with (fail)
     have hHeldB : ((fun (w' : World) => w'.cell? ⟨bz, oz + 1, none⟩ = some vz ∧ w'.cell? ⟨bx, ox + 1, none⟩ = some vx ∧ w'.cell? ⟨bY, oy + 1, none⟩ = some vy)) _ := ⟨kz, kx, ky⟩
     refine hK.out _ _ (fun _ => hHeldB) ?_
     clear hK K
     try simp only [Act.put, yA, yB, yC, yD, yE, yF]
     refine tkP (i := 14) (v := ?v14_6) rfl (by kernel_rfl) (fun _ _ _ h => h) ⟨by rfl, ?y14_6⟩ (by assumption) ?r14_6
     case y14_6 => (intro w; go_simp; try with_reducible rfl)
     try simp only [Act.put, yA, yB, yC, yD, yE, yF]
     refine tkP (i := 15) (v := ?v15_6) rfl (by kernel_rfl) (fun _ _ _ h => h) ⟨by rfl, ?y15_6⟩ (by assumption) ?r15_6
     case y15_6 => (intro w; go_simp; try with_reducible rfl)
     try simp only [Act.put, yA, yB, yC, yD, yE, yF]
     refine tkO (i := 16) rfl (by kernel_rfl) (fun K hK => ?_)
     go_simp
     refine hK.out _ _ (fun h => Bool.noConfusion (show true = false from h)) ?_
     clear hK K
     try simp only [Act.put, yA, yB, yC, yD, yE, yF]
     refine tkD (by kernel_rfl) ?_ _
     clear hHeldB
     by_cases hl0 : nl = 0
     · have t1 : decide (0 < nl) = false := by simp [hl0]
       have hl00 := hid hl0
       clear hl0
       go_wp2
       go_ret
       have hle : l = [] := List.eq_nil_of_length_eq_zero (by rw [H_hll.out]; exact hl00.out)
       refine IntRet.of_fresh H_kw.out ⟨rfl, IntIs.made H_hz.out.str H_hz.out.nat H_hop.out H_hnorm.out false (fun _ => rfl) _ ?_ rfl⟩
       have hv := H_hval.out
       rw [hle] at hv ⊢; rw [H_hs'.out]; have := H_hle.out; cases negx <;> simp [ival, val] at hv ⊢ <;> omega
     · have t1 : decide (0 < nl) = true := by simp; omega
       have hl00 := hid hl0
       clear hl0
       go_wp2
       go_ret
       have hle : l ≠ [] := fun e => hl00.out (by rw [← H_hll.out, e]; rfl)
       refine IntRet.of_fresh H_kw.out ⟨rfl, IntIs.made H_hz.out.str H_hz.out.nat H_hop.out H_hnorm.out (!negx) (fun e => absurd e hle) _ ?_ rfl⟩
       have hv := H_hval.out
       rw [H_hs'.out]; have := H_hle.out; cases negx <;> simp [ival] <;> omega

end Go.Proofs.YtllencgncinphaaGreatDoor
