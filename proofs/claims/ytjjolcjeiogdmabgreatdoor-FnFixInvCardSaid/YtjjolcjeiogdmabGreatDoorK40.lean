/- FnFixInv: every way. -/
import Derived.Test.YtjjolcjeiogdmabGreatDoorTie
import Derived.Test.YtjjolcjeiogdmabGreatDoorCards
import Derived.SevenTiedAt
import Derived.Test.YtjjolcjeiogdmabGreatDoorK3
import Derived.Test.YtjjolcjeiogdmabGreatDoorK10
import Derived.Test.YtjjolcjeiogdmabGreatDoorK21
import Derived.Test.YtjjolcjeiogdmabGreatDoorK38
import Derived.Test.YtjjolcjeiogdmabGreatDoorK39
namespace Go.Proofs.YtjjolcjeiogdmabGreatDoor
open Go.RowKit

theorem FnFixInv_out (n : Bool) (c : Nat) (s : Int) (w : World) (h : fixIs c s = false) :
    Calls Tryz.prog 3 #[.agg #[.bool n, .int .u64 c, .int .i64 s]] w (VRet w (.bool true)) := by
  have H_h := Lib.hid h; clear h
  go_enter Tryz.func3, Tryz.ntmps3
  go_wp2_with (fail)
  refine (FixIs_any n c s _).mono ?_
  rintro e w2 ⟨rfl, hf⟩
  rw [H_h.out]
  have H_hf := Lib.hid (fresh_trans ((Keep.refl _ _).alloc _) hf)
  clear hf
  go_wp2_with (fail)
  go_ret
  exact ⟨rfl, H_hf.out⟩

set_option maxRecDepth 100000 in
set_option maxHeartbeats 8000000 in
theorem FnFixInv_walk (n2 nr : Bool) (c2 s2 cr : Nat) (sr fl : Int) (w : World) (hs2 : s2 ≤ 19) (hc2 : c2 ≤ 9999999999999999999) (hc20 : 0 < c2)
    (hcl : ∀ W, Fresh w W → Calls Tryz.prog 5 #[fx n2 c2 s2] W (VRet W (.tuple #[.agg #[.bool nr, .int .u64 cr, .int .i64 sr], .int .i64 fl])))
    (hgv : ∀ W x, Fresh w W → SFr W x (zfix n2 (10 ^ s2)) c2 → Calls Tryz.prog 6 #[.agg #[.bool nr, .int .u64 cr, .int .i64 sr], .int .i64 fl, x] W (VRet W (.bool true))) :
    Calls Tryz.prog 3 #[fx n2 c2 s2] w (VRet w (.bool true)) := by
  have h : fixIs c2 s2 = true := by unfold fixIs; simp; omega
  have hn2 := fun W => FixNum_any n2 c2 s2 W hs2 hc2
  have hinv := fun W x (hx : SFr W x (zfix n2 c2) (10 ^ s2)) => inv_quo hc20 x W hx
  have hz2 : ((c2 : Int) == 0) = false := by rw [beq_eq_false_iff_ne]; omega
  obtain ⟨g, hg⟩ : ∃ g, g = w.heap.size := ⟨_, rfl⟩
  have bx := box1 w #[.bool n2, .int .u64 c2, .int .i64 s2] 24 g hg
  have H_bx := Lib.hid bx; clear bx
  have H_h := Lib.hid h; clear h
  have H_hcl := Lib.hid hcl; clear hcl
  have H_hn2 := Lib.hid hn2; clear hn2
  have H_hinv := Lib.hid hinv; clear hinv
  have H_hgv := Lib.hid hgv; clear hgv
  go_enter Tryz.func3, Tryz.ntmps3
  go_wp2_with (fail)
  generalize hw1 : w.alloc _ = w1
  rw [← hg]
  obtain ⟨d1, fa⟩ := H_bx.out w1 hw1
  refine (FixIs_any n2 c2 s2 _).mono ?_
  rintro e w2 ⟨rfl, f2⟩
  rw [H_h.out]
  have d1 := row_fresh d1 f2
  have fa := fresh_trans fa f2
  have m0 := row_cell d1 0
  have m1 := row_cell d1 1
  have m2 := row_cell d1 2
  simp at m0 m1 m2
  have H_hw1 := Lib.hid hw1; clear hw1
  have H_hg := Lib.hid hg; clear hg
  have H_f2 := Lib.hid f2; clear f2
  have H_d1 := Lib.hid d1; clear d1
  have H_fa := Lib.hid fa; clear fa
  go_wp2_with (fail)
  refine (H_hcl.out _ H_fa.out).mono ?_
  rintro e w3 ⟨rfl, f3⟩
  have d1 := row_fresh H_d1.out f3
  have fa := fresh_trans H_fa.out f3
  have e1 := fun o => row_cell (row_fresh d1 ((Keep.refl (fun _ => False) w3).alloc o)) 1
  simp at e1
  clear m0 m1 m2
  obtain ⟨h7, hh7⟩ : ∃ h, h = w3.heap.size := ⟨_, rfl⟩
  clear H_d1 H_fa
  have H_f3 := Lib.hid f3; clear f3
  have H_hh7 := Lib.hid hh7; clear hh7
  have H_d1 := Lib.hid d1; clear d1
  have H_fa := Lib.hid fa; clear fa
  go_wp2_with (fail)
  generalize hw4 : w3.alloc _ = w4
  have f4 : Fresh w3 w4 := by rw [← hw4]; exact (Keep.refl _ _).alloc _
  have r7 : w4.heap[h7]? = some (.cells #[.bool nr, .int .u64 cr, .int .i64 sr] 24 (0, 0)) := by rw [← hw4, H_hh7.out]; exact heap_alloc_new w3 _
  rw [← H_hh7.out]
  clear e1
  have d1 := row_fresh H_d1.out f4
  have fa := fresh_trans H_fa.out f4
  have m0 := row_cell r7 0
  have m1 := row_cell r7 1
  have m2 := row_cell r7 2
  have m3 := row_cell d1 0
  have m4 := row_cell d1 1
  have m5 := row_cell d1 2
  simp at m0 m1 m2 m3 m4 m5
  clear H_d1 H_fa
  have H_f4 := Lib.hid f4; clear f4
  have H_hw4 := Lib.hid hw4; clear hw4
  have H_d1 := Lib.hid d1; clear d1
  have H_r7 := Lib.hid r7; clear r7
  have H_fa := Lib.hid fa; clear fa
  go_region_held3 (fun (w' : World) => w'.cell? ⟨h7, 0, none⟩ = some (.bool nr) ∧ w'.cell? ⟨h7, 1, none⟩ = some (.int .u64 cr) ∧ w'.cell? ⟨h7, 2, none⟩ = some (.int .i64 sr) ∧ w'.cell? ⟨g, 0, none⟩ = some (.bool n2) ∧ w'.cell? ⟨g, 1, none⟩ = some (.int .u64 c2) ∧ w'.cell? ⟨g, 2, none⟩ = some (.int .i64 s2)) (first | exact ⟨m0, m1, m2, m3, m4, m5⟩ | exact ⟨z2_0, z2_1, z2_2, z2_3, z2_4, z2_5⟩ | exact ⟨z4_0, z4_1, z4_2, z4_3, z4_4, z4_5⟩ | exact ⟨z6_0, z6_1, z6_2, z6_3, z6_4, z6_5⟩) (first
    | (go_at_call 7; (with_reducible refine (H_hn2.out _).mono ?_); rintro e y1_ ⟨xb, rfl, hsxb, r⟩; have hy : Fresh w4 y1_ := (by first | exact r | exact r.of_drew | exact r.of_drewN); have z2_0 := cell_fresh m0 hy; have z2_1 := cell_fresh m1 hy; have z2_2 := cell_fresh m2 hy; have z2_3 := cell_fresh m3 hy; have z2_4 := cell_fresh m4 hy; have z2_5 := cell_fresh m5 hy; have fy1_ := hy; have H_fy1_ := Lib.hid fy1_; have H_hyxb := Lib.hid hy; have H_hsxb := Lib.hid hsxb; clear r hy hsxb fy1_)
    | (go_at_call 8; (with_reducible refine (H_hinv.out _ _ H_hsxb.out).mono ?_); rintro e y3_ ⟨xe, rfl, hsxe, r⟩; have hy : Fresh y1_ y3_ := r; have z4_0 := cell_fresh z2_0 hy; have z4_1 := cell_fresh z2_1 hy; have z4_2 := cell_fresh z2_2 hy; have z4_3 := cell_fresh z2_3 hy; have z4_4 := cell_fresh z2_4 hy; have z4_5 := cell_fresh z2_5 hy; have fy3_ := fresh_trans H_fy1_.out hy; have H_fy3_ := Lib.hid fy3_; have H_hyxe := Lib.hid hy; have H_hsxe := Lib.hid hsxe; clear r hy hsxe fy3_)
    | (go_at_call 6; (with_reducible refine (H_hgv.out _ _ (fresh_trans H_fa.out H_fy3_.out) H_hsxe.out).mono ?_); rintro e y5_ ⟨rfl, r⟩; have hy : Fresh y3_ y5_ := r; have z6_0 := cell_fresh z4_0 hy; have z6_1 := cell_fresh z4_1 hy; have z6_2 := cell_fresh z4_2 hy; have z6_3 := cell_fresh z4_3 hy; have z6_4 := cell_fresh z4_4 hy; have z6_5 := cell_fresh z4_5 hy; have fy5_ := fresh_trans H_fy3_.out hy; have H_fy5_ := Lib.hid fy5_; clear r hy fy5_))
  go_wp2
  go_ret
  exact ⟨by rfl, fresh_trans H_fa.out H_fy5_.out⟩

set_option maxRecDepth 100000 in
set_option maxHeartbeats 8000000 in
theorem FnFixInv_zero (n2 nr : Bool) (c2 s2 cr : Nat) (sr : Int) (w : World) (hs2 : s2 ≤ 19) (_hc2 : c2 ≤ 9999999999999999999) (hc20 : c2 = 0)
    (hcl : ∀ W, Fresh w W → Calls Tryz.prog 5 #[fx n2 c2 s2] W (VRet W (.tuple #[.agg #[.bool nr, .int .u64 cr, .int .i64 sr], .int .i64 1]))) :
    Calls Tryz.prog 3 #[fx n2 c2 s2] w (VRet w (.bool true)) := by
  have h : fixIs c2 s2 = true := by unfold fixIs; simp; omega
  have hz2 : ((c2 : Int) == 0) = true := by rw [hc20]; rfl
  clear hc20
  obtain ⟨g, hg⟩ : ∃ g, g = w.heap.size := ⟨_, rfl⟩
  have bx := box1 w #[.bool n2, .int .u64 c2, .int .i64 s2] 24 g hg
  have H_bx := Lib.hid bx; clear bx
  have H_h := Lib.hid h; clear h
  have H_hcl := Lib.hid hcl; clear hcl
  go_enter Tryz.func3, Tryz.ntmps3
  go_wp2_with (fail)
  generalize hw1 : w.alloc _ = w1
  rw [← hg]
  obtain ⟨d1, fa⟩ := H_bx.out w1 hw1
  refine (FixIs_any n2 c2 s2 _).mono ?_
  rintro e w2 ⟨rfl, f2⟩
  rw [H_h.out]
  have d1 := row_fresh d1 f2
  have fa := fresh_trans fa f2
  have m0 := row_cell d1 0
  have m1 := row_cell d1 1
  have m2 := row_cell d1 2
  simp at m0 m1 m2
  have H_hw1 := Lib.hid hw1; clear hw1
  have H_hg := Lib.hid hg; clear hg
  have H_f2 := Lib.hid f2; clear f2
  have H_d1 := Lib.hid d1; clear d1
  have H_fa := Lib.hid fa; clear fa
  go_wp2_with (fail)
  refine (H_hcl.out _ H_fa.out).mono ?_
  rintro e w3 ⟨rfl, f3⟩
  have d1 := row_fresh H_d1.out f3
  have fa := fresh_trans H_fa.out f3
  have e1 := fun o => row_cell (row_fresh d1 ((Keep.refl (fun _ => False) w3).alloc o)) 1
  simp at e1
  clear m0 m1 m2
  obtain ⟨h7, hh7⟩ : ∃ h, h = w3.heap.size := ⟨_, rfl⟩
  clear H_d1 H_fa
  have H_f3 := Lib.hid f3; clear f3
  have H_hh7 := Lib.hid hh7; clear hh7
  have H_d1 := Lib.hid d1; clear d1
  have H_fa := Lib.hid fa; clear fa
  go_wp2_with (fail)
  go_ret
  exact ⟨by rfl, fresh_trans H_fa.out ((Keep.refl _ _).alloc _)⟩

theorem inv_z (n : Bool) (s : Nat) : zfix false 1 * zfix n (10 ^ s) = zfix n (10 ^ s) := by unfold zfix; simp

theorem inv_d (c : Nat) : 10 ^ 0 * c = c := by rw [Nat.pow_zero, Nat.one_mul]

/-- the inverse of a number that is not zero is found, and trimmed -/
theorem inv_fin (n2 nz : Bool) (c2 s2 sz cz : Nat) (w : World) (hP : Pow10s w) (hs2 : s2 ≤ 19) (hc2 : c2 ≤ 9999999999999999999) (h2 : 0 < c2)
    (hg1 : Good (zfix n2 (10 ^ s2)).natAbs c2 cz sz) (hg3 : nz = true → 0 < cz) (hg4 : zfix nz cz = sgnN (zfix n2 (10 ^ s2)) cz)
    (hx : ∀ (t ct : Nat), (∀ W, Fresh w W → Calls Tryz.prog 48 #[gd nz sz cz, .int .i64 ((0 : Nat) : Int)] W (VRet W (gd nz t ct))) →
      ∀ W, Fresh w W → Calls Tryz.prog 34 #[gd false 0 1, gd (n2 && decide (0 < c2)) s2 c2, .int .i64 0] W (VRet W (.tuple #[gd nz t ct, .nilIface]))) :
    Calls Tryz.prog 3 #[fx n2 c2 s2] w (VRet w (.bool true)) := by
  obtain ⟨hd, hdd, hb⟩ := quo_bounds (n1 := false) (n2 := n2) (c1 := 1) (s1 := 0) (by omega) hs2 (by omega) hc2 h2
  rw [inv_z] at hb
  rw [inv_d] at hd hdd
  obtain ⟨t, ct, ht, hct, htr⟩ := TrimD_any nz sz cz 0 hg1.1 hg1.2.1 hg3
  obtain ⟨ht19, hcl, hcan, hsg, T, hT, he⟩ := trim_ok hd hg1 hg3 hg4 ht hct
  have hq := hx t ct (fun W hW => htr W (hP.fresh hW))
  exact FnFixInv_walk n2 nz c2 s2 ct t 0 w hs2 hc2 h2
    (fun W hW => FixInv_ok n2 nz c2 s2 ct t W hs2 hc2 ht19 (fun V hV => Inv_ok _ nz c2 s2 t ct V (fun X hX => Quo_ok _ _ nz 1 0 c2 s2 t ct X (fun U hU => hq U (fresh_trans (fresh_trans (fresh_trans hW hV) hX) hU)))))
    (fun W x _ hx => gvNear_okT nz ct t x _ _ W hx hd hb hdd ht19 hcl T hT he hcan hsg)

theorem FnFixInv_main (n2 : Bool) (c2 s2 : Nat) (w : World) (hG : Glob w) (hP : Pow10s w) (hE : ErrIs w) (hJ : ErrJs w) (hs2 : s2 ≤ 19) (hc2 : c2 ≤ 9999999999999999999) :
    Calls Tryz.prog 3 #[fx n2 c2 s2] w (VRet w (.bool true)) := by
  rcases Nat.eq_zero_or_pos c2 with h2 | h2
  · subst h2
    exact FnFixInv_zero n2 false 0 s2 0 0 w hs2 hc2 rfl (fun W hW => FixInv_err n2 0 s2 W hs2 hc2 (fun V hV => Inv_err _ 0 s2 V (fun X hX => Quo_err _ _ 1 0 0 s2 X (fun U hU => QuoExact_ze _ _ 1 0 s2 U))))
  obtain ⟨hd, hdd, hb⟩ := quo_bounds (n1 := false) (n2 := n2) (c1 := 1) (s1 := 0) (by omega) hs2 (by omega) hc2 h2
  rw [inv_z] at hb
  rw [inv_d] at hd hdd
  have hcn : (n2 && decide (0 < c2)) = n2 := by simp [h2]
  have hlaw := quoFint_law false (n2 && decide (0 < c2)) 1 0 c2 s2 0 (by omega) (by omega) hs2 (by omega) hc2 h2
  have hlawB := quoBint_law false (n2 && decide (0 < c2)) 1 0 c2 s2 0 (by omega) (by omega) hs2 (by omega) hc2 h2
  rw [inv_z, inv_d] at hlaw hlawB
  rw [show zfix (n2 && decide (0 < c2)) (10 ^ s2) = zfix n2 (10 ^ s2) by rw [hcn]] at hlaw hlawB
  rcases hlaw with herr | ⟨nz, sz, cz, hok, hg1, _, hg3, hg4⟩
  · rcases hlawB with ⟨hno, herrB⟩ | ⟨nz, sz, cz, hok, hg1, _, hg3, hg4⟩
    · exact FnFixInv_walk n2 false c2 s2 0 0 1 w hs2 hc2 h2
        (fun W hW => FixInv_err n2 c2 s2 W hs2 hc2 (fun V hV => Inv_err _ c2 s2 V (fun X hX => Quo_err _ _ 1 0 c2 s2 X (fun U hU => QuoExact_no _ _ 1 0 c2 s2 U (by omega) hs2 (by omega) h2
          (fun T hT => herr T (((((hP.fresh hW).fresh hV).fresh hX).fresh hU).fresh hT) (((((hE.fresh hW).fresh hV).fresh hX).fresh hU).fresh hT) (((((hJ.fresh hW).fresh hV).fresh hX).fresh hU).fresh hT))
          (fun T hT => herrB T (((((hG.fresh hW).fresh hV).fresh hX).fresh hU).fresh hT) (((((hP.fresh hW).fresh hV).fresh hX).fresh hU).fresh hT))))))
        (fun W x _ hx => gvNear_err false 0 0 x _ _ W hx hd hb hdd hno)
    · refine inv_fin n2 nz c2 s2 sz cz w hP hs2 hc2 h2 hg1 hg3 hg4 (fun t ct hT W hW => ?_)
      exact QuoExact_ok2le _ _ nz 1 0 c2 s2 sz cz t ct 0 W (by omega) hs2 (by omega) h2 ⟨by omega, rfl⟩ (fun T hT => herr T ((hP.fresh hW).fresh hT) ((hE.fresh hW).fresh hT) ((hJ.fresh hW).fresh hT)) (fun T hT => hok T ((hG.fresh hW).fresh hT) ((hP.fresh hW).fresh hT)) (fun T hT' => hT T (fresh_trans hW hT'))
  · refine inv_fin n2 nz c2 s2 sz cz w hP hs2 hc2 h2 hg1 hg3 hg4 (fun t ct hT W hW => ?_)
    exact QuoExact_ok1le _ _ nz 1 0 c2 s2 sz cz t ct 0 W (by omega) hs2 (by omega) h2 ⟨by omega, rfl⟩ (fun T hT => hok T ((hP.fresh hW).fresh hT) ((hE.fresh hW).fresh hT) ((hJ.fresh hW).fresh hT)) (fun T hT' => hT T (fresh_trans hW hT'))

end Go.Proofs.YtjjolcjeiogdmabGreatDoor

/- What the laid variables of math/big, and the sentinel errors, hold. -/
namespace Go.Proofs.YtjjolcjeiogdmabGreatDoor
open Go Go.ChangeShapes Go.WideShapes Go.ChangeAt Go.RowKit Go.Lib Go.Joins

theorem int_of_laid {W : World} {name : String} {n : Int} {rest : List (String × DataW Unit)} {g : Nat} {t : TypeId} (hg : Tryz.prog.globalNamed name = some g) (hty : (Tryz.prog.globals[g]?).map (·.type) = some t) (ht : Tryz.prog.underlying t = some (.int .i64))
    (h : laidMet Tryz.prog ((name, .lit (.int .i64 n)) :: rest) W) : W.cell? ⟨g, 0, none⟩ = some (.int .i64 n) := by
  obtain ⟨ps, ⟨g', t', cs, fuel, p, q, hg', ht', hvar, hd, _, _⟩, _⟩ := h
  obtain rfl := Option.some.inj (hg.symm.trans hg')
  obtain rfl := Option.some.inj (hty.symm.trans ht')
  obtain ⟨k, e1, e2, _⟩ := DataW.trod_int ht hd
  have hk : n = k := by simpa using congrArg Prod.fst e2
  subst hk
  have := World.var?_cell hg hvar 0
  rw [Array.eq_one_of_toList e1] at this
  simpa using this

theorem size_of_cell {w : World} {g : Nat} {v : Value} (h : w.cell? ⟨g, 0, none⟩ = some v) : g < w.heap.size := World.block_lt_of_cell? w _ h

theorem glob_of {W : World} (h1 : W.cell? ⟨6, 0, none⟩ = some (.int .i64 40)) (h2 : W.cell? ⟨4, 0, none⟩ = some (.int .i64 12))
    (h3 : W.cell? ⟨5, 0, none⟩ = some (.int .i64 80)) (h4 : W.cell? ⟨7, 0, none⟩ = some (.int .i64 40)) : Glob W := by
  have s1 := size_of_cell h1
  have s2 := size_of_cell h2
  have s3 := size_of_cell h3
  have s4 := size_of_cell h4
  exact ⟨by unfold NG; omega, h1, h2, h3, h4⟩

end Go.Proofs.YtjjolcjeiogdmabGreatDoor

/- Facts about the program as a whole that every card asks. -/
namespace Go.Proofs.YtjjolcjeiogdmabGreatDoor
open Go Go.ChangeShapes Go.WideShapes Go.ChangeAt Go.RowKit Go.Lib Go.Joins

theorem main_is : Tryz.pinned.checked.prog.mainIs = some (Rows.fnFixInvCard.stood.harness.fst, Rows.fnFixInvCard.stood.harness.snd.toList) := by kernel_rfl

theorem looks_no : false = Tryz.pinned.checked.prog.looks [] := by kernel_rfl

end Go.Proofs.YtjjolcjeiogdmabGreatDoor
