/- The walk of FnFixSubAbs. -/
import Derived.Test.YtjdfapoomjeabaaGreatDoorK18
import Derived.Test.YtjdfapoomjeabaaGreatDoorK49
import Derived.Test.YtjdfapoomjeabaaGreatDoorK52
import Derived.Test.YtjdfapoomjeabaaGreatDoorK56
import Derived.Test.YtjdfapoomjeabaaGreatDoorK69
import Derived.Test.YtjdfapoomjeabaaGreatDoorK70
import Derived.Test.YtjdfapoomjeabaaGreatDoorK73
import Derived.Test.YtjdfapoomjeabaaGreatDoorK74
import Derived.Test.YtjdfapoomjeabaaGreatDoorK75
namespace Go.Proofs.YtjdfapoomjeabaaGreatDoor
open Go.RowKit

set_option maxRecDepth 20000 in
set_option maxHeartbeats 2000000 in
theorem FnFixSubAbs_out (n1 n2 : Bool) (c1 c2 : Nat) (s1 s2 : Int) (w : World) (h : (fixIs c1 s1 && fixIs c2 s2) = false) :
    Calls Tryz.prog 6 #[.agg #[.bool n1, .int .u64 c1, .int .i64 s1], .agg #[.bool n2, .int .u64 c2, .int .i64 s2]] w (VRet w (.bool true)) := by
  obtain ⟨g, hg⟩ : ∃ g, g = w.heap.size := ⟨_, rfl⟩
  have bx := boxes3 w #[.bool n1, .int .u64 c1, .int .i64 s1] #[.bool n2, .int .u64 c2, .int .i64 s2] #[.bool n1, .int .u64 c1, .int .i64 s1, .bool n2, .int .u64 c2, .int .i64 s2] 24 24 24 g hg
  have H_bx := Lib.hid bx; clear bx
  have H_h := Lib.hid h; clear h
  go_enter Tryz.func6, Tryz.ntmps6
  go_wp2_with (fail)
  generalize hw1 : ((w.alloc _).alloc _).alloc _ = w1
  rw [← hg]
  obtain ⟨d1, d2, d3, fa, _⟩ := H_bx.out w1 hw1
  refine (FixAll_two n1 n2 c1 c2 s1 s2 _ _ d3).mono ?_
  rintro e w2 ⟨rfl, f2⟩
  rw [H_h.out]
  have H_d1 := Lib.hid d1; clear d1
  have H_d2 := Lib.hid d2; clear d2
  have H_d3 := Lib.hid d3; clear d3
  have H_fa := Lib.hid fa; clear fa
  have H_hw1 := Lib.hid hw1; clear hw1
  have H_hg := Lib.hid hg; clear hg
  have H_f2 := Lib.hid f2; clear f2
  go_wp2_with (fail)
  go_ret
  exact ⟨rfl, fresh_trans H_fa.out H_f2.out⟩

set_option maxRecDepth 100000 in
set_option maxHeartbeats 8000000 in
theorem FnFixSubAbs_walk (n1 n2 nr : Bool) (c1 s1 c2 s2 cr : Nat) (sr fl : Int) (w : World) (hs1 : s1 ≤ 19) (hs2 : s2 ≤ 19) (hc1 : c1 ≤ 9999999999999999999) (hc2 : c2 ≤ 9999999999999999999)
    (hcl : ∀ W, Fresh w W → Calls Tryz.prog 22 #[fx n1 c1 s1, fx n2 c2 s2] W (VRet W (.tuple #[.agg #[.bool nr, .int .u64 cr, .int .i64 sr], .int .i64 fl])))
    (hgv : ∀ W x, Fresh w W → SFr W x (((zfix n1 c1 * ((10 ^ s2 : Nat) : Int) + -zfix n2 c2 * ((10 ^ s1 : Nat) : Int)).natAbs : Nat) : Int) (10 ^ s1 * 10 ^ s2) → Calls Tryz.prog 15 #[.agg #[.bool nr, .int .u64 cr, .int .i64 sr], .int .i64 fl, x] W (VRet W (.bool true))) :
    Calls Tryz.prog 6 #[fx n1 c1 s1, fx n2 c2 s2] w (VRet w (.bool true)) := by
  have h : (fixIs c1 s1 && fixIs c2 s2) = true := by unfold fixIs; simp; omega
  have hn1 := fun W => FixNum_any n1 c1 s1 W hs1 hc1
  have hn2 := fun W => FixNum_any n2 c2 s2 W hs2 hc2
  have hop := fun W x y (hx : SFr W x (zfix n1 c1) (10 ^ s1)) (hy : SFr W y (zfix n2 c2) (10 ^ s2)) => FracSub_any x y _ _ _ _ W hx hy (zfix_spow hc1) (zfix_spow hc2) (ten_spow hs1) (ten_spow hs2)
  have hab := fun W x z d (hx : SFr W x z d) => FracAbs_any x z d W hx
  obtain ⟨g, hg⟩ : ∃ g, g = w.heap.size := ⟨_, rfl⟩
  have bx := boxes3 w #[.bool n1, .int .u64 c1, .int .i64 s1] #[.bool n2, .int .u64 c2, .int .i64 s2] #[.bool n1, .int .u64 c1, .int .i64 s1, .bool n2, .int .u64 c2, .int .i64 s2] 24 24 24 g hg
  have H_bx := Lib.hid bx; clear bx
  have H_h := Lib.hid h; clear h
  have H_hcl := Lib.hid hcl; clear hcl
  have H_hn1 := Lib.hid hn1; clear hn1
  have H_hn2 := Lib.hid hn2; clear hn2
  have H_hop := Lib.hid hop; clear hop
  have H_hgv := Lib.hid hgv; clear hgv
  have H_hab := Lib.hid hab; clear hab
  go_enter Tryz.func6, Tryz.ntmps6
  go_wp2_with (fail)
  generalize hw1 : ((w.alloc _).alloc _).alloc _ = w1
  rw [← hg]
  obtain ⟨d1, d2, d3, fa, _⟩ := H_bx.out w1 hw1
  refine (FixAll_two n1 n2 c1 c2 s1 s2 _ _ d3).mono ?_
  rintro e w2 ⟨rfl, f2⟩
  rw [H_h.out]
  clear d3
  have H_d1 := Lib.hid d1; clear d1
  have H_d2 := Lib.hid d2; clear d2
  have H_fa := Lib.hid fa; clear fa
  have H_hw1 := Lib.hid hw1; clear hw1
  have H_hg := Lib.hid hg; clear hg
  have d1 := row_fresh H_d1.out f2
  have d2 := row_fresh H_d2.out f2
  have fa := fresh_trans H_fa.out f2
  have m0 := row_cell d1 0
  have m1 := row_cell d1 1
  have m2 := row_cell d1 2
  have m3 := row_cell d2 0
  have m4 := row_cell d2 1
  have m5 := row_cell d2 2
  simp at m0 m1 m2 m3 m4 m5
  have H_f2 := Lib.hid f2; clear f2
  clear H_d1 H_d2 H_fa
  have H_d1 := Lib.hid d1; clear d1
  have H_d2 := Lib.hid d2; clear d2
  have H_fa := Lib.hid fa; clear fa
  go_wp2_with (fail)
  refine (H_hcl.out _ H_fa.out).mono ?_
  rintro e w3 ⟨rfl, f3⟩
  have d1 := row_fresh H_d1.out f3
  have d2 := row_fresh H_d2.out f3
  have fa := fresh_trans H_fa.out f3
  clear m0 m1 m2 m3 m4 m5
  obtain ⟨h7, hh7⟩ : ∃ h, h = w3.heap.size := ⟨_, rfl⟩
  have H_f3 := Lib.hid f3; clear f3
  have H_hh7 := Lib.hid hh7; clear hh7
  clear H_d1 H_d2 H_fa
  have H_d1 := Lib.hid d1; clear d1
  have H_d2 := Lib.hid d2; clear d2
  have H_fa := Lib.hid fa; clear fa
  go_wp2_with (fail)
  generalize hw4 : w3.alloc _ = w4
  have f4 : Fresh w3 w4 := by rw [← hw4]; exact (Keep.refl _ _).alloc _
  have r7 : w4.heap[h7]? = some (.cells #[.bool nr, .int .u64 cr, .int .i64 sr] 24 (0, 0)) := by rw [← hw4, H_hh7.out]; exact heap_alloc_new w3 _
  rw [← H_hh7.out]
  have d1 := row_fresh H_d1.out f4
  have d2 := row_fresh H_d2.out f4
  have fa := fresh_trans H_fa.out f4
  have m0 := row_cell r7 0
  have m1 := row_cell r7 1
  have m2 := row_cell r7 2
  have m3 := row_cell d1 0
  have m4 := row_cell d1 1
  have m5 := row_cell d1 2
  have m6 := row_cell d2 0
  have m7 := row_cell d2 1
  have m8 := row_cell d2 2
  simp at m0 m1 m2 m3 m4 m5 m6 m7 m8
  have H_f4 := Lib.hid f4; clear f4
  have H_hw4 := Lib.hid hw4; clear hw4
  clear H_d1 H_d2 H_fa
  have H_d1 := Lib.hid d1; clear d1
  have H_d2 := Lib.hid d2; clear d2
  have H_r7 := Lib.hid r7; clear r7
  have H_fa := Lib.hid fa; clear fa
  go_region_held3 (fun (w' : World) => w'.cell? ⟨h7, 0, none⟩ = some (.bool nr) ∧ w'.cell? ⟨h7, 1, none⟩ = some (.int .u64 cr) ∧ w'.cell? ⟨h7, 2, none⟩ = some (.int .i64 sr) ∧ w'.cell? ⟨g, 0, none⟩ = some (.bool n1) ∧ w'.cell? ⟨g, 1, none⟩ = some (.int .u64 c1) ∧ w'.cell? ⟨g, 2, none⟩ = some (.int .i64 s1) ∧ w'.cell? ⟨g + 1, 0, none⟩ = some (.bool n2) ∧ w'.cell? ⟨g + 1, 1, none⟩ = some (.int .u64 c2) ∧ w'.cell? ⟨g + 1, 2, none⟩ = some (.int .i64 s2)) (first | exact ⟨m0, m1, m2, m3, m4, m5, m6, m7, m8⟩ | exact ⟨z2_0, z2_1, z2_2, z2_3, z2_4, z2_5, z2_6, z2_7, z2_8⟩ | exact ⟨z4_0, z4_1, z4_2, z4_3, z4_4, z4_5, z4_6, z4_7, z4_8⟩ | exact ⟨z6_0, z6_1, z6_2, z6_3, z6_4, z6_5, z6_6, z6_7, z6_8⟩ | exact ⟨z8_0, z8_1, z8_2, z8_3, z8_4, z8_5, z8_6, z8_7, z8_8⟩ | exact ⟨z10_0, z10_1, z10_2, z10_3, z10_4, z10_5, z10_6, z10_7, z10_8⟩) (first
    | (go_at_call 16; (with_reducible refine (H_hn1.out _).mono ?_); rintro e y1_ ⟨xa, rfl, hsxa, r⟩; have hy : Fresh w4 y1_ := (by first | exact r | exact r.of_drew | exact r.of_drewN); have z2_0 := cell_fresh m0 hy; have z2_1 := cell_fresh m1 hy; have z2_2 := cell_fresh m2 hy; have z2_3 := cell_fresh m3 hy; have z2_4 := cell_fresh m4 hy; have z2_5 := cell_fresh m5 hy; have z2_6 := cell_fresh m6 hy; have z2_7 := cell_fresh m7 hy; have z2_8 := cell_fresh m8 hy; have fy1_ := hy; have H_fy1_ := Lib.hid fy1_; have H_hyxa := Lib.hid hy; have H_hsxa := Lib.hid hsxa; clear r hy hsxa fy1_)
    | (go_at_call 16; (with_reducible refine (H_hn2.out _).mono ?_); rintro e y3_ ⟨xb, rfl, hsxb, r⟩; have hy : Fresh y1_ y3_ := r; have z4_0 := cell_fresh z2_0 hy; have z4_1 := cell_fresh z2_1 hy; have z4_2 := cell_fresh z2_2 hy; have z4_3 := cell_fresh z2_3 hy; have z4_4 := cell_fresh z2_4 hy; have z4_5 := cell_fresh z2_5 hy; have z4_6 := cell_fresh z2_6 hy; have z4_7 := cell_fresh z2_7 hy; have z4_8 := cell_fresh z2_8 hy; have fy3_ := fresh_trans H_fy1_.out hy; have H_fy3_ := Lib.hid fy3_; have H_hyxb := Lib.hid hy; have H_hsxb := Lib.hid hsxb; clear r hy hsxb fy3_)
    | (go_at_call 21; (with_reducible refine (H_hop.out _ _ _ (H_hsxa.out.fresh H_hyxb.out) H_hsxb.out).mono ?_); rintro e y5_ ⟨xc, rfl, hsxc, r⟩; have hy : Fresh y3_ y5_ := r; have z6_0 := cell_fresh z4_0 hy; have z6_1 := cell_fresh z4_1 hy; have z6_2 := cell_fresh z4_2 hy; have z6_3 := cell_fresh z4_3 hy; have z6_4 := cell_fresh z4_4 hy; have z6_5 := cell_fresh z4_5 hy; have z6_6 := cell_fresh z4_6 hy; have z6_7 := cell_fresh z4_7 hy; have z6_8 := cell_fresh z4_8 hy; have fy5_ := fresh_trans H_fy3_.out hy; have H_fy5_ := Lib.hid fy5_; have H_hyxc := Lib.hid hy; have H_hsxc := Lib.hid hsxc; clear r hy hsxc fy5_)
    | (go_at_call 23; (with_reducible refine (H_hab.out _ _ _ _ H_hsxc.out).mono ?_); rintro e y7_ ⟨xd, rfl, hsxd, r⟩; have hy : Fresh y5_ y7_ := r; have z8_0 := cell_fresh z6_0 hy; have z8_1 := cell_fresh z6_1 hy; have z8_2 := cell_fresh z6_2 hy; have z8_3 := cell_fresh z6_3 hy; have z8_4 := cell_fresh z6_4 hy; have z8_5 := cell_fresh z6_5 hy; have z8_6 := cell_fresh z6_6 hy; have z8_7 := cell_fresh z6_7 hy; have z8_8 := cell_fresh z6_8 hy; have fy7_ := fresh_trans H_fy5_.out hy; have H_fy7_ := Lib.hid fy7_; have H_hyxd := Lib.hid hy; have H_hsxd := Lib.hid hsxd; clear r hy hsxd fy7_)
    | (go_at_call 15; (with_reducible refine (H_hgv.out _ _ (fresh_trans H_fa.out H_fy7_.out) H_hsxd.out).mono ?_); rintro e y9_ ⟨rfl, r⟩; have hy : Fresh y7_ y9_ := r; have z10_0 := cell_fresh z8_0 hy; have z10_1 := cell_fresh z8_1 hy; have z10_2 := cell_fresh z8_2 hy; have z10_3 := cell_fresh z8_3 hy; have z10_4 := cell_fresh z8_4 hy; have z10_5 := cell_fresh z8_5 hy; have z10_6 := cell_fresh z8_6 hy; have z10_7 := cell_fresh z8_7 hy; have z10_8 := cell_fresh z8_8 hy; have fy9_ := fresh_trans H_fy7_.out hy; have H_fy9_ := Lib.hid fy9_; clear r hy fy9_))
  go_wp2
  go_ret
  exact ⟨by rfl, fresh_trans H_fa.out H_fy9_.out⟩

theorem frac_boundsSubAbs {n1 n2 : Bool} {c1 s1 c2 s2 : Nat} (hs1 : s1 ≤ 19) (hs2 : s2 ≤ 19) (hc1 : c1 ≤ 9999999999999999999) (hc2 : c2 ≤ 9999999999999999999) :
    0 < 10 ^ s1 * 10 ^ s2 ∧ 10 ^ s1 * 10 ^ s2 < spow 300 ∧ (zfix n1 c1 * ((10 ^ s2 : Nat) : Int) + zfix n2 c2 * ((10 ^ s1 : Nat) : Int)).natAbs < spow 300 ∧ (zfix n1 c1 * zfix n2 c2).natAbs < spow 300 := by
  have p1 : 10 ^ s1 ≤ 10 ^ 19 := Nat.pow_le_pow_right (by omega) hs1
  have p2 : 10 ^ s2 ≤ 10 ^ 19 := Nat.pow_le_pow_right (by omega) hs2
  have q1 : 0 < 10 ^ s1 := Nat.pow_pos (by omega)
  have q2 : 0 < 10 ^ s2 := Nat.pow_pos (by omega)
  have e5 : spow 5 = 1000000000000000000000000000000000000000000000 := rfl
  have e300 : spow 5 ≤ spow 300 := spow_mono (by omega)
  have m1 : 10 ^ s1 * 10 ^ s2 ≤ 10 ^ 19 * 10 ^ 19 := Nat.mul_le_mul p1 p2
  have m2 : c1 * 10 ^ s2 ≤ 9999999999999999999 * 10 ^ 19 := Nat.mul_le_mul hc1 p2
  have m3 : c2 * 10 ^ s1 ≤ 9999999999999999999 * 10 ^ 19 := Nat.mul_le_mul hc2 p1
  have m4 : c1 * c2 ≤ 9999999999999999999 * 9999999999999999999 := Nat.mul_le_mul hc1 hc2
  have a1 : (zfix n1 c1).natAbs = c1 := by unfold zfix; split <;> simp
  have a2 : (zfix n2 c2).natAbs = c2 := by unfold zfix; split <;> simp
  refine ⟨Nat.mul_pos q1 q2, by omega, ?_, ?_⟩
  · have h1 := Int.natAbs_add_le (zfix n1 c1 * ((10 ^ s2 : Nat) : Int)) (zfix n2 c2 * ((10 ^ s1 : Nat) : Int))
    rw [Int.natAbs_mul, Int.natAbs_mul, a1, a2, Int.natAbs_natCast, Int.natAbs_natCast] at h1
    omega
  · rw [Int.natAbs_mul, a1, a2]
    omega

theorem FnFixSubAbs_main (n1 n2 : Bool) (c1 s1 c2 s2 : Nat) (w : World) (hG : Glob w) (hP : Pow10s w) (hE : ErrIs w) (hs1 : s1 ≤ 19) (hs2 : s2 ≤ 19) (hc1 : c1 ≤ 9999999999999999999) (hc2 : c2 ≤ 9999999999999999999) :
    Calls Tryz.prog 6 #[fx n1 c1 s1, fx n2 c2 s2] w (VRet w (.bool true)) := by
  obtain ⟨hd, hdd, hb3, hb4⟩ := frac_boundsSubAbs (n1 := n1) (n2 := !n2) hs1 hs2 hc1 hc2
  have hzn : zfix (!n2) c2 = -zfix n2 c2 := by unfold zfix; cases n2 <;> simp
  have hz3 : zfix (!(n2 && decide (0 < c2)) && decide (0 < c2)) c2 = -zfix n2 c2 := by rw [zfix_canon, ← hzn]; unfold zfix; cases n2 <;> rcases Nat.eq_zero_or_pos c2 with h | h <;> simp [h]
  rw [hzn] at hb3
  have hlaw := addFint_law (n1 && decide (0 < c1)) (!(n2 && decide (0 < c2)) && decide (0 < c2)) c1 s1 c2 s2 0 (by omega) hs1 hs2 hc1 hc2
  have hlawB := addBint_law (n1 && decide (0 < c1)) (!(n2 && decide (0 < c2)) && decide (0 < c2)) c1 s1 c2 s2 0 (by omega) hs1 hs2 hc1 hc2
  rw [hz3, zfix_canon] at hlaw hlawB
  have hX : ∀ W, Fresh w W → (∀ V, Fresh W V → Calls Tryz.prog 54 #[gd (n1 && decide (0 < c1)) s1 c1, gd (!(n2 && decide (0 < c2)) && decide (0 < c2)) s2 c2, .int .i64 0] V (ClampErr V)) ∧ ¬ okN ((zfix n1 c1 * ((10 ^ s2 : Nat) : Int) + -zfix n2 c2 * ((10 ^ s1 : Nat) : Int))).natAbs (10 ^ s1 * 10 ^ s2) 0 ∨
      ∃ nz sz cz, (∀ V, Fresh W V → Calls Tryz.prog 54 #[gd (n1 && decide (0 < c1)) s1 c1, gd (!(n2 && decide (0 < c2)) && decide (0 < c2)) s2 c2, .int .i64 0] V (VRet V (.tuple #[gd nz sz cz, .nilIface]))) ∧ ResOK ((zfix n1 c1 * ((10 ^ s2 : Nat) : Int) + -zfix n2 c2 * ((10 ^ s1 : Nat) : Int))) (10 ^ s1 * 10 ^ s2) 0 nz sz cz := by
    intro W hW
    rcases hlaw with herr | ⟨nz, sz, cz, hok, hg⟩
    · rcases hlawB with ⟨hno, herrB⟩ | ⟨nz, sz, cz, hok, hg⟩
      · exact .inl ⟨fun V hV => AddExact_no _ _ c1 s1 c2 s2 0 (by omega) V (fun T hT => herr T (((hP.fresh hW).fresh hV).fresh hT) (((hE.fresh hW).fresh hV).fresh hT)) (fun T hT => herrB T (((hG.fresh hW).fresh hV).fresh hT) (((hP.fresh hW).fresh hV).fresh hT)), hno⟩
      · exact .inr ⟨nz, sz, cz, fun V hV => AddExact_ok2 _ _ nz c1 s1 c2 s2 sz cz 0 (by omega) V (fun T hT => herr T (((hP.fresh hW).fresh hV).fresh hT) (((hE.fresh hW).fresh hV).fresh hT)) (fun T hT => hok T (((hG.fresh hW).fresh hV).fresh hT) (((hP.fresh hW).fresh hV).fresh hT)), hg⟩
    · exact .inr ⟨nz, sz, cz, fun V hV => AddExact_ok1 _ _ nz c1 s1 c2 s2 sz cz 0 (by omega) V (fun T hT => hok T (((hP.fresh hW).fresh hV).fresh hT) (((hE.fresh hW).fresh hV).fresh hT)), hg⟩
  have hX' := hX w (Keep.refl _ _)
  rcases hX' with ⟨_, hno⟩ | ⟨nz, sz, cz, hok, hg1, _, hg3, hg4⟩
  · have herr : ∀ W, Fresh w W → ∀ V, Fresh W V → Calls Tryz.prog 54 #[gd (n1 && decide (0 < c1)) s1 c1, gd (!(n2 && decide (0 < c2)) && decide (0 < c2)) s2 c2, .int .i64 0] V (ClampErr V) := by
      intro W hW V hV
      rcases hX W hW with ⟨h, _⟩ | ⟨nz, sz, cz, _, hg1, _, _, _⟩
      · exact h V hV
      · obtain ⟨t, ht, _, _⟩ := good_top hd hg1
        exact absurd (okN_anti hd (Nat.zero_le t) ht.2.1) hno
    exact FnFixSubAbs_walk n1 n2 false c1 s1 c2 s2 0 0 1 w hs1 hs2 hc1 hc2
      (fun W hW => FixSubAbs_err n1 n2 c1 s1 c2 s2 W hs1 hs2 hc1 hc2 (fun V hV => SubAbs_err _ _ c1 s1 c2 s2 V (fun T hT => Sub_err _ _ c1 s1 c2 s2 T hs2 (fun U hU => herr W hW U (fresh_trans hV (fresh_trans hT hU))))))
      (fun W x _ hx => gvNear_err false 0 0 x _ _ W hx hd (by rw [Int.natAbs_natCast]; exact hb3) hdd (by rw [Int.natAbs_natCast]; exact hno))
  · exact FnFixSubAbs_walk n1 n2 (false && decide (0 < cz)) c1 s1 c2 s2 cz sz 0 w hs1 hs2 hc1 hc2
      (fun W hW => FixSubAbs_ok n1 n2 (false && decide (0 < cz)) c1 s1 c2 s2 cz sz W hs1 hs2 hc1 hc2 hg1.1 (fun V hV => SubAbs_ok _ _ nz c1 s1 c2 s2 sz cz V hg1.1 (fun T hT => Sub_ok _ _ nz c1 s1 c2 s2 sz cz T hs2 (fun U hU => hok U (fresh_trans hW (fresh_trans hV (fresh_trans hT hU)))))))
      (fun W x _ hx => gvNear_ok (false && decide (0 < cz)) cz sz x _ _ W hx hd (by rw [Int.natAbs_natCast]; exact hb3) hdd (by rw [Int.natAbs_natCast]; exact hg1) (fun h => by simp at h) (by unfold zfix sgnN; simp; omega))

end Go.Proofs.YtjdfapoomjeabaaGreatDoor
