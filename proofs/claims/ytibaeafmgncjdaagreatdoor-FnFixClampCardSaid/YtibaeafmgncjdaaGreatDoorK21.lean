/- What the laid variables of math/big, and the sentinel errors, hold. -/
import Derived.Test.YtibaeafmgncjdaaGreatDoorK12
import Derived.Test.YtibaeafmgncjdaaGreatDoorK15
import Derived.Test.YtibaeafmgncjdaaGreatDoorK20
namespace Go.Proofs.YtibaeafmgncjdaaGreatDoor
open Go Go.ChangeShapes Go.WideShapes Go.ChangeAt Go.RowKit Go.Lib Go.Joins

theorem int_of_laid {W : World} {name : String} {n : Int} {rest : List (String × DataW Unit)} {g : Nat} {t : TypeId} (hg : Tryz.prog.globalNamed name = some g) (hty : (Tryz.prog.globals[g]?).map (·.type) = some t) (ht : Tryz.prog.underlying t = some (.int .i64))
    (h : laidMet Tryz.prog ((name, .lit (.int .i64 n)) :: rest) W) : W.cell? ⟨g, 0, none⟩ = some (.int .i64 n) := by
  obtain ⟨ps, ⟨g', t', cs, fuel, p, q, hg', ht', hvar, hd, _, _⟩, _⟩ := h
  obtain rfl := Option.some.inj (hg.symm.trans hg')
  obtain rfl := Option.some.inj (hty.symm.trans ht')
  obtain ⟨k, e1, e2, _⟩ := DataW.trod_int ht hd
  have hk : n = k := by simpa using congrArg Prod.fst e2
  subst hk
  have := World.var?_cell hg hvar 0
  rw [Array.eq_one_of_toList e1] at this
  simpa using this

theorem size_of_cell {w : World} {g : Nat} {v : Value} (h : w.cell? ⟨g, 0, none⟩ = some v) : g < w.heap.size := World.block_lt_of_cell? w _ h

theorem glob_of {W : World} (h1 : W.cell? ⟨5, 0, none⟩ = some (.int .i64 40)) (h2 : W.cell? ⟨3, 0, none⟩ = some (.int .i64 12))
    (h3 : W.cell? ⟨4, 0, none⟩ = some (.int .i64 80)) (h4 : W.cell? ⟨6, 0, none⟩ = some (.int .i64 40)) : Glob W := by
  have s1 := size_of_cell h1
  have s2 := size_of_cell h2
  have s3 := size_of_cell h3
  have s4 := size_of_cell h4
  exact ⟨by unfold NG; omega, h1, h2, h3, h4⟩

end Go.Proofs.YtibaeafmgncjdaaGreatDoor

/- govalues' decimals compared by whole numbers of 64 bits: cmpFint. -/
namespace Go.Proofs.YtibaeafmgncjdaaGreatDoor
open Go.RowKit

/-- how two decimals of one sign compare, or the fault that there was no room -/
def CRet (w : World) (r : Int) (e : Ending) (w' : World) : Prop :=
  Fresh w w' ∧ (e = .returned (.tuple #[.int .i64 r, .nilIface]) ∨ ∃ a : Addr, e = .returned (.tuple #[.int .i64 0, .iface 115 (.pointer (some a))]))

theorem gsign_bd (n : Bool) (c : Nat) : -1 ≤ gsign n c ∧ gsign n c ≤ 1 := by
  unfold gsign
  split
  · omega
  · split <;> omega

set_option maxRecDepth 20000 in
set_option maxHeartbeats 4000000 in
theorem cmpFint_eq (n1 n2 : Bool) (c1 s1 c2 s2 : Nat) (w : World) (hP : Pow10s w) (hE : ErrIs w) (hs1 : s1 ≤ 19) (hs2 : s2 ≤ 19) (_hc1 : c1 ≤ 9999999999999999999) (_hc2 : c2 ≤ 9999999999999999999) (hsg : gsign n1 c1 = gsign n2 c2) (hlt : s1 = s2) :
    Calls Tryz.prog 86 #[gd n1 s1 c1, gd n2 s2 c2] w (CRet w (cmpA (gsign n1 c1) (c1 * 10 ^ (s2 - s1)) (c2 * 10 ^ (s1 - s2)))) := by
  have hsd := fun W => Sign_any n1 s1 c1 W
  have hse := fun W => Sign_any n2 s2 c2 W
  have hbd := gsign_bd n1 c1
  rw [← hsg] at hse
  generalize gsign n1 c1 = sg at *
  clear hsg
  have tw : IntKind.i64.wrap (-sg) = -sg := by rw [IntKind.wrap_i64]; omega
  subst hlt
  rw [Nat.sub_self, Nat.pow_zero, Nat.mul_one, Nat.mul_one]
  have t1 : decide ((s1 : Int) < (s1 : Int)) = false := by simp
  obtain ⟨g, hg⟩ : ∃ g, g = w.heap.size := ⟨_, rfl⟩
  have bx := boxes2 w #[.bool n1, .int .i8 s1, .int .u64 c1] #[.bool n2, .int .i8 s1, .int .u64 c2] 62 62 g hg
  clear hbd
  have H_bx := Lib.hid bx; clear bx
  have H_hP := Lib.hid hP; clear hP
  have H_hE := Lib.hid hE; clear hE
  have H_hsd := Lib.hid hsd; clear hsd
  have H_hse := Lib.hid hse; clear hse
  go_enter Tryz.func86, Tryz.ntmps86
  go_wp2_with (fail)
  generalize hw1 : (w.alloc _).alloc _ = w1
  rw [← hg]
  obtain ⟨b1, b2, hf⟩ := H_bx.out w1 hw1
  have k0 := row_cell b1 0
  have k1 := row_cell b1 1
  have k2 := row_cell b1 2
  simp at k0 k1 k2
  have k3 := row_cell b2 0
  have k4 := row_cell b2 1
  have k5 := row_cell b2 2
  simp at k3 k4 k5
  have H_b1 := Lib.hid b1; clear b1
  have H_b2 := Lib.hid b2; clear b2
  have H_hf := Lib.hid hf; clear hf
  have H_hw1 := Lib.hid hw1; clear hw1
  have H_hg := Lib.hid hg; clear hg
  go_region_held3 (fun (w' : World) => w'.cell? ⟨g, 0, none⟩ = some (.bool n1) ∧ w'.cell? ⟨g, 1, none⟩ = some (.int .i8 s1) ∧ w'.cell? ⟨g, 2, none⟩ = some (.int .u64 c1) ∧ w'.cell? ⟨g + 1, 0, none⟩ = some (.bool n2) ∧ w'.cell? ⟨g + 1, 1, none⟩ = some (.int .i8 s1) ∧ w'.cell? ⟨g + 1, 2, none⟩ = some (.int .u64 c2)) (first | exact ⟨k0, k1, k2, k3, k4, k5⟩ | exact ⟨z2_0, z2_1, z2_2, z2_3, z2_4, z2_5⟩ | exact ⟨z4_0, z4_1, z4_2, z4_3, z4_4, z4_5⟩) (first
    | (go_at_call 93; (with_reducible refine (Scale_any n1 s1 c1 _ hs1).mono ?_); rintro e y1_ ⟨rfl, r⟩; have hy : Fresh w1 y1_ := (by first | exact r | exact r.of_drew | exact r.of_drewN); have z2_0 := cell_fresh k0 hy; have z2_1 := cell_fresh k1 hy; have z2_2 := cell_fresh k2 hy; have z2_3 := cell_fresh k3 hy; have z2_4 := cell_fresh k4 hy; have z2_5 := cell_fresh k5 hy; have fy1_ := hy; have H_fy1_ := Lib.hid fy1_; clear r hy fy1_)
    | (go_at_call 93; (with_reducible refine (Scale_any n2 s1 c2 _ hs2).mono ?_); rintro e y3_ ⟨rfl, r⟩; have hy : Fresh y1_ y3_ := r; have z4_0 := cell_fresh z2_0 hy; have z4_1 := cell_fresh z2_1 hy; have z4_2 := cell_fresh z2_2 hy; have z4_3 := cell_fresh z2_3 hy; have z4_4 := cell_fresh z2_4 hy; have z4_5 := cell_fresh z2_5 hy; have fy3_ := fresh_trans H_fy1_.out hy; have H_fy3_ := Lib.hid fy3_; clear r hy fy3_))
  have Fy3_ := H_fy3_.out
  have H_Fy3_ := Lib.hid Fy3_
  clear Fy3_
  go_wp2_with (fail)
  go_region_held3 (fun (w' : World) => w'.cell? ⟨g, 0, none⟩ = some (.bool n1) ∧ w'.cell? ⟨g, 1, none⟩ = some (.int .i8 s1) ∧ w'.cell? ⟨g, 2, none⟩ = some (.int .u64 c1) ∧ w'.cell? ⟨g + 1, 0, none⟩ = some (.bool n2) ∧ w'.cell? ⟨g + 1, 1, none⟩ = some (.int .i8 s1) ∧ w'.cell? ⟨g + 1, 2, none⟩ = some (.int .u64 c2)) (first | exact ⟨z4_0, z4_1, z4_2, z4_3, z4_4, z4_5⟩ | exact ⟨z6_0, z6_1, z6_2, z6_3, z6_4, z6_5⟩ | exact ⟨z8_0, z8_1, z8_2, z8_3, z8_4, z8_5⟩) (first
    | (go_at_call 93; (with_reducible refine (Scale_any n1 s1 c1 _ hs1).mono ?_); rintro e y5_ ⟨rfl, r⟩; have hy : Fresh y3_ y5_ := (by first | exact r | exact r.of_drew | exact r.of_drewN); have z6_0 := cell_fresh z4_0 hy; have z6_1 := cell_fresh z4_1 hy; have z6_2 := cell_fresh z4_2 hy; have z6_3 := cell_fresh z4_3 hy; have z6_4 := cell_fresh z4_4 hy; have z6_5 := cell_fresh z4_5 hy; have fy5_ := hy; have H_fy5_ := Lib.hid fy5_; clear r hy fy5_)
    | (go_at_call 93; (with_reducible refine (Scale_any n2 s1 c2 _ hs2).mono ?_); rintro e y7_ ⟨rfl, r⟩; have hy : Fresh y5_ y7_ := r; have z8_0 := cell_fresh z6_0 hy; have z8_1 := cell_fresh z6_1 hy; have z8_2 := cell_fresh z6_2 hy; have z8_3 := cell_fresh z6_3 hy; have z8_4 := cell_fresh z6_4 hy; have z8_5 := cell_fresh z6_5 hy; have fy7_ := fresh_trans H_fy5_.out hy; have H_fy7_ := Lib.hid fy7_; clear r hy fy7_))
  have Fy7_ := fresh_trans H_Fy3_.out H_fy7_.out
  have H_Fy7_ := Lib.hid Fy7_
  clear Fy7_
  rcases Nat.lt_trichotomy c1 c2 with hcc | hcc | hcc
  · have hv : cmpA sg c1 c2 = -sg := by unfold cmpA; rw [if_neg (by omega), if_pos (by omega)]
    have hn5 : ¬ c2 < c1 := by omega
    have hn6 : c1 < c2 := by omega
    have t5 : decide ((c2 : Int) < (c1 : Int)) = false := by simp; omega
    have t6 : decide ((c1 : Int) < (c2 : Int)) = true := by simp; omega
    have H_hv := Lib.hid hv
    clear hv hcc
    go_wp2_with (fail)
    refine (H_hse.out _).mono ?_
    rintro e wz ⟨rfl, r⟩
    have H_rz := Lib.hid r
    clear r
    go_wp2_with (fail)
    go_ret2
    exact ⟨fresh_trans (fresh_trans H_hf.out H_Fy7_.out) H_rz.out, .inl (by rw [H_hv.out]; rfl)⟩
  · have hv : cmpA sg c1 c2 = 0 := by unfold cmpA; rw [if_neg (by omega), if_neg (by omega)]
    have hn5 : ¬ c2 < c1 := by omega
    have hn6 : ¬ c1 < c2 := by omega
    have t5 : decide ((c2 : Int) < (c1 : Int)) = false := by simp; omega
    have t6 : decide ((c1 : Int) < (c2 : Int)) = false := by simp; omega
    have H_hv := Lib.hid hv
    clear hv hcc
    go_wp2_with (fail)
    go_ret2
    exact ⟨fresh_trans H_hf.out H_Fy7_.out, .inl (by rw [H_hv.out]; rfl)⟩
  · have hv : cmpA sg c1 c2 = sg := by unfold cmpA; rw [if_pos (by omega)]
    have hn5 : c2 < c1 := by omega
    have hn6 : ¬ c1 < c2 := by omega
    have t5 : decide ((c2 : Int) < (c1 : Int)) = true := by simp; omega
    have t6 : decide ((c1 : Int) < (c2 : Int)) = false := by simp; omega
    have H_hv := Lib.hid hv
    clear hv hcc
    go_wp2_with (fail)
    refine (H_hsd.out _).mono ?_
    rintro e wz ⟨rfl, r⟩
    have H_rz := Lib.hid r
    clear r
    go_wp2_with (fail)
    go_ret2
    exact ⟨fresh_trans (fresh_trans H_hf.out H_Fy7_.out) H_rz.out, .inl (by rw [H_hv.out]; rfl)⟩

set_option maxRecDepth 20000 in
set_option maxHeartbeats 4000000 in
theorem cmpFint_gtf (n1 n2 : Bool) (c1 s1 c2 s2 : Nat) (w : World) (hP : Pow10s w) (hE : ErrIs w) (hs1 : s1 ≤ 19) (hs2 : s2 ≤ 19) (_hc1 : c1 ≤ 9999999999999999999) (hc2 : c2 ≤ 9999999999999999999) (hsg : gsign n1 c1 = gsign n2 c2) (hlt : s2 < s1) (hfit : c2 * 10 ^ (s1 - s2) ≤ 9999999999999999999) :
    Calls Tryz.prog 86 #[gd n1 s1 c1, gd n2 s2 c2] w (CRet w (cmpA (gsign n1 c1) (c1 * 10 ^ (s2 - s1)) (c2 * 10 ^ (s1 - s2)))) := by
  have hsd := fun W => Sign_any n1 s1 c1 W
  have hse := fun W => Sign_any n2 s2 c2 W
  have hbd := gsign_bd n1 c1
  rw [← hsg] at hse
  generalize gsign n1 c1 = sg at *
  clear hsg
  have tw : IntKind.i64.wrap (-sg) = -sg := by rw [IntKind.wrap_i64]; omega
  rw [show s2 - s1 = 0 by omega, Nat.pow_zero, Nat.mul_one]
  have hlsh := fun W (hW : Fresh w W) => flsh_any c2 (s1 - s2) W (hP.fresh hW) hc2 (by omega)
  have t1 : decide ((s2 : Int) < (s1 : Int)) = true := by simp; omega
  obtain ⟨k, hk⟩ : ∃ k, k = s1 - s2 := ⟨_, rfl⟩
  rw [← hk] at hlsh hfit ⊢
  have hkI : (s1 : Int) - (s2 : Int) = (k : Int) := by omega
  have hkw : IntKind.i64.wrap (k : Int) = (k : Int) := wrap_nat k (by omega)
  obtain ⟨b, hb⟩ : ∃ b, b = c2 * 10 ^ k := ⟨_, rfl⟩
  rw [← hb] at hlsh hfit ⊢
  have hm : mulTo b = .tuple #[.int .u64 b, .bool true] := by unfold mulTo; rw [if_pos hfit]
  rw [hm] at hlsh
  clear hm hb hk
  have H_hlsh := Lib.hid hlsh; clear hlsh
  obtain ⟨g, hg⟩ : ∃ g, g = w.heap.size := ⟨_, rfl⟩
  have bx := boxes2 w #[.bool n1, .int .i8 s1, .int .u64 c1] #[.bool n2, .int .i8 s2, .int .u64 c2] 62 62 g hg
  clear hbd
  have H_bx := Lib.hid bx; clear bx
  have H_hP := Lib.hid hP; clear hP
  have H_hE := Lib.hid hE; clear hE
  have H_hsd := Lib.hid hsd; clear hsd
  have H_hse := Lib.hid hse; clear hse
  go_enter Tryz.func86, Tryz.ntmps86
  go_wp2_with (fail)
  generalize hw1 : (w.alloc _).alloc _ = w1
  rw [← hg]
  obtain ⟨b1, b2, hf⟩ := H_bx.out w1 hw1
  have k0 := row_cell b1 0
  have k1 := row_cell b1 1
  have k2 := row_cell b1 2
  simp at k0 k1 k2
  have k3 := row_cell b2 0
  have k4 := row_cell b2 1
  have k5 := row_cell b2 2
  simp at k3 k4 k5
  have H_b1 := Lib.hid b1; clear b1
  have H_b2 := Lib.hid b2; clear b2
  have H_hf := Lib.hid hf; clear hf
  have H_hw1 := Lib.hid hw1; clear hw1
  have H_hg := Lib.hid hg; clear hg
  go_region_held3 (fun (w' : World) => w'.cell? ⟨g, 0, none⟩ = some (.bool n1) ∧ w'.cell? ⟨g, 1, none⟩ = some (.int .i8 s1) ∧ w'.cell? ⟨g, 2, none⟩ = some (.int .u64 c1) ∧ w'.cell? ⟨g + 1, 0, none⟩ = some (.bool n2) ∧ w'.cell? ⟨g + 1, 1, none⟩ = some (.int .i8 s2) ∧ w'.cell? ⟨g + 1, 2, none⟩ = some (.int .u64 c2)) (first | exact ⟨k0, k1, k2, k3, k4, k5⟩ | exact ⟨z10_0, z10_1, z10_2, z10_3, z10_4, z10_5⟩ | exact ⟨z12_0, z12_1, z12_2, z12_3, z12_4, z12_5⟩) (first
    | (go_at_call 93; (with_reducible refine (Scale_any n1 s1 c1 _ hs1).mono ?_); rintro e y9_ ⟨rfl, r⟩; have hy : Fresh w1 y9_ := (by first | exact r | exact r.of_drew | exact r.of_drewN); have z10_0 := cell_fresh k0 hy; have z10_1 := cell_fresh k1 hy; have z10_2 := cell_fresh k2 hy; have z10_3 := cell_fresh k3 hy; have z10_4 := cell_fresh k4 hy; have z10_5 := cell_fresh k5 hy; have fy9_ := hy; have H_fy9_ := Lib.hid fy9_; clear r hy fy9_)
    | (go_at_call 93; (with_reducible refine (Scale_any n2 s2 c2 _ hs2).mono ?_); rintro e y11_ ⟨rfl, r⟩; have hy : Fresh y9_ y11_ := r; have z12_0 := cell_fresh z10_0 hy; have z12_1 := cell_fresh z10_1 hy; have z12_2 := cell_fresh z10_2 hy; have z12_3 := cell_fresh z10_3 hy; have z12_4 := cell_fresh z10_4 hy; have z12_5 := cell_fresh z10_5 hy; have fy11_ := fresh_trans H_fy9_.out hy; have H_fy11_ := Lib.hid fy11_; clear r hy fy11_))
  have Fy11_ := H_fy11_.out
  have H_Fy11_ := Lib.hid Fy11_
  clear Fy11_
  go_wp2_with (fail)
  go_region_held3 (fun (w' : World) => w'.cell? ⟨g, 0, none⟩ = some (.bool n1) ∧ w'.cell? ⟨g, 1, none⟩ = some (.int .i8 s1) ∧ w'.cell? ⟨g, 2, none⟩ = some (.int .u64 c1) ∧ w'.cell? ⟨g + 1, 0, none⟩ = some (.bool n2) ∧ w'.cell? ⟨g + 1, 1, none⟩ = some (.int .i8 s2) ∧ w'.cell? ⟨g + 1, 2, none⟩ = some (.int .u64 c2)) (first | exact ⟨z12_0, z12_1, z12_2, z12_3, z12_4, z12_5⟩ | exact ⟨z14_0, z14_1, z14_2, z14_3, z14_4, z14_5⟩ | exact ⟨z16_0, z16_1, z16_2, z16_3, z16_4, z16_5⟩) (first
    | (go_at_call 93; (with_reducible refine (Scale_any n1 s1 c1 _ hs1).mono ?_); rintro e y13_ ⟨rfl, r⟩; have hy : Fresh y11_ y13_ := (by first | exact r | exact r.of_drew | exact r.of_drewN); have z14_0 := cell_fresh z12_0 hy; have z14_1 := cell_fresh z12_1 hy; have z14_2 := cell_fresh z12_2 hy; have z14_3 := cell_fresh z12_3 hy; have z14_4 := cell_fresh z12_4 hy; have z14_5 := cell_fresh z12_5 hy; have fy13_ := hy; have H_fy13_ := Lib.hid fy13_; clear r hy fy13_)
    | (go_at_call 93; (with_reducible refine (Scale_any n2 s2 c2 _ hs2).mono ?_); rintro e y15_ ⟨rfl, r⟩; have hy : Fresh y13_ y15_ := r; have z16_0 := cell_fresh z14_0 hy; have z16_1 := cell_fresh z14_1 hy; have z16_2 := cell_fresh z14_2 hy; have z16_3 := cell_fresh z14_3 hy; have z16_4 := cell_fresh z14_4 hy; have z16_5 := cell_fresh z14_5 hy; have fy15_ := fresh_trans H_fy13_.out hy; have H_fy15_ := Lib.hid fy15_; clear r hy fy15_)
    | (go_at_call 108; (with_reducible refine (H_hlsh.out _ (fresh_trans (fresh_trans H_hf.out H_Fy11_.out) H_fy15_.out)).mono ?_); rintro e y17_ ⟨rfl, hsame⟩; subst hsame))
  have Fy15_ := fresh_trans H_Fy11_.out H_fy15_.out
  have H_Fy15_ := Lib.hid Fy15_
  clear Fy15_
  rcases Nat.lt_trichotomy c1 b with hcc | hcc | hcc
  · have hv : cmpA sg c1 b = -sg := by unfold cmpA; rw [if_neg (by omega), if_pos (by omega)]
    have hn5 : ¬ b < c1 := by omega
    have hn6 : c1 < b := by omega
    have t5 : decide ((b : Int) < (c1 : Int)) = false := by simp; omega
    have t6 : decide ((c1 : Int) < (b : Int)) = true := by simp; omega
    have H_hv := Lib.hid hv
    clear hv hcc
    go_wp2_with (fail)
    refine (H_hse.out _).mono ?_
    rintro e wz ⟨rfl, r⟩
    have H_rz := Lib.hid r
    clear r
    go_wp2_with (fail)
    go_ret2
    exact ⟨fresh_trans (fresh_trans H_hf.out H_Fy15_.out) H_rz.out, .inl (by rw [H_hv.out]; rfl)⟩
  · have hv : cmpA sg c1 b = 0 := by unfold cmpA; rw [if_neg (by omega), if_neg (by omega)]
    have hn5 : ¬ b < c1 := by omega
    have hn6 : ¬ c1 < b := by omega
    have t5 : decide ((b : Int) < (c1 : Int)) = false := by simp; omega
    have t6 : decide ((c1 : Int) < (b : Int)) = false := by simp; omega
    have H_hv := Lib.hid hv
    clear hv hcc
    go_wp2_with (fail)
    go_ret2
    exact ⟨fresh_trans H_hf.out H_Fy15_.out, .inl (by rw [H_hv.out]; rfl)⟩
  · have hv : cmpA sg c1 b = sg := by unfold cmpA; rw [if_pos (by omega)]
    have hn5 : b < c1 := by omega
    have hn6 : ¬ c1 < b := by omega
    have t5 : decide ((b : Int) < (c1 : Int)) = true := by simp; omega
    have t6 : decide ((c1 : Int) < (b : Int)) = false := by simp; omega
    have H_hv := Lib.hid hv
    clear hv hcc
    go_wp2_with (fail)
    refine (H_hsd.out _).mono ?_
    rintro e wz ⟨rfl, r⟩
    have H_rz := Lib.hid r
    clear r
    go_wp2_with (fail)
    go_ret2
    exact ⟨fresh_trans (fresh_trans H_hf.out H_Fy15_.out) H_rz.out, .inl (by rw [H_hv.out]; rfl)⟩

set_option maxRecDepth 20000 in
set_option maxHeartbeats 4000000 in
theorem cmpFint_gto (n1 n2 : Bool) (c1 s1 c2 s2 : Nat) (w : World) (hP : Pow10s w) (hE : ErrIs w) (hs1 : s1 ≤ 19) (hs2 : s2 ≤ 19) (_hc1 : c1 ≤ 9999999999999999999) (hc2 : c2 ≤ 9999999999999999999) (hsg : gsign n1 c1 = gsign n2 c2) (hlt : s2 < s1) (hfit : ¬ c2 * 10 ^ (s1 - s2) ≤ 9999999999999999999) :
    Calls Tryz.prog 86 #[gd n1 s1 c1, gd n2 s2 c2] w (CRet w (cmpA (gsign n1 c1) (c1 * 10 ^ (s2 - s1)) (c2 * 10 ^ (s1 - s2)))) := by
  have hsd := fun W => Sign_any n1 s1 c1 W
  have hse := fun W => Sign_any n2 s2 c2 W
  have hbd := gsign_bd n1 c1
  rw [← hsg] at hse
  generalize gsign n1 c1 = sg at *
  clear hsg
  have tw : IntKind.i64.wrap (-sg) = -sg := by rw [IntKind.wrap_i64]; omega
  rw [show s2 - s1 = 0 by omega, Nat.pow_zero, Nat.mul_one]
  have hlsh := fun W (hW : Fresh w W) => flsh_any c2 (s1 - s2) W (hP.fresh hW) hc2 (by omega)
  have t1 : decide ((s2 : Int) < (s1 : Int)) = true := by simp; omega
  obtain ⟨k, hk⟩ : ∃ k, k = s1 - s2 := ⟨_, rfl⟩
  rw [← hk] at hlsh hfit ⊢
  have hkI : (s1 : Int) - (s2 : Int) = (k : Int) := by omega
  have hkw : IntKind.i64.wrap (k : Int) = (k : Int) := wrap_nat k (by omega)
  obtain ⟨b, hb⟩ : ∃ b, b = c2 * 10 ^ k := ⟨_, rfl⟩
  rw [← hb] at hlsh hfit ⊢
  have hm : mulTo b = .tuple #[.int .u64 0, .bool false] := by unfold mulTo; rw [if_neg hfit]
  rw [hm] at hlsh
  clear hm hb hk
  have H_hlsh := Lib.hid hlsh; clear hlsh
  clear hfit
  obtain ⟨g, hg⟩ : ∃ g, g = w.heap.size := ⟨_, rfl⟩
  have bx := boxes2 w #[.bool n1, .int .i8 s1, .int .u64 c1] #[.bool n2, .int .i8 s2, .int .u64 c2] 62 62 g hg
  clear hbd
  have H_bx := Lib.hid bx; clear bx
  have H_hP := Lib.hid hP; clear hP
  have H_hE := Lib.hid hE; clear hE
  have H_hsd := Lib.hid hsd; clear hsd
  have H_hse := Lib.hid hse; clear hse
  go_enter Tryz.func86, Tryz.ntmps86
  go_wp2_with (fail)
  generalize hw1 : (w.alloc _).alloc _ = w1
  rw [← hg]
  obtain ⟨b1, b2, hf⟩ := H_bx.out w1 hw1
  have k0 := row_cell b1 0
  have k1 := row_cell b1 1
  have k2 := row_cell b1 2
  simp at k0 k1 k2
  have k3 := row_cell b2 0
  have k4 := row_cell b2 1
  have k5 := row_cell b2 2
  simp at k3 k4 k5
  have H_b1 := Lib.hid b1; clear b1
  have H_b2 := Lib.hid b2; clear b2
  have H_hf := Lib.hid hf; clear hf
  have H_hw1 := Lib.hid hw1; clear hw1
  have H_hg := Lib.hid hg; clear hg
  go_region_held3 (fun (w' : World) => w'.cell? ⟨g, 0, none⟩ = some (.bool n1) ∧ w'.cell? ⟨g, 1, none⟩ = some (.int .i8 s1) ∧ w'.cell? ⟨g, 2, none⟩ = some (.int .u64 c1) ∧ w'.cell? ⟨g + 1, 0, none⟩ = some (.bool n2) ∧ w'.cell? ⟨g + 1, 1, none⟩ = some (.int .i8 s2) ∧ w'.cell? ⟨g + 1, 2, none⟩ = some (.int .u64 c2)) (first | exact ⟨k0, k1, k2, k3, k4, k5⟩ | exact ⟨z20_0, z20_1, z20_2, z20_3, z20_4, z20_5⟩ | exact ⟨z22_0, z22_1, z22_2, z22_3, z22_4, z22_5⟩) (first
    | (go_at_call 93; (with_reducible refine (Scale_any n1 s1 c1 _ hs1).mono ?_); rintro e y19_ ⟨rfl, r⟩; have hy : Fresh w1 y19_ := (by first | exact r | exact r.of_drew | exact r.of_drewN); have z20_0 := cell_fresh k0 hy; have z20_1 := cell_fresh k1 hy; have z20_2 := cell_fresh k2 hy; have z20_3 := cell_fresh k3 hy; have z20_4 := cell_fresh k4 hy; have z20_5 := cell_fresh k5 hy; have fy19_ := hy; have H_fy19_ := Lib.hid fy19_; clear r hy fy19_)
    | (go_at_call 93; (with_reducible refine (Scale_any n2 s2 c2 _ hs2).mono ?_); rintro e y21_ ⟨rfl, r⟩; have hy : Fresh y19_ y21_ := r; have z22_0 := cell_fresh z20_0 hy; have z22_1 := cell_fresh z20_1 hy; have z22_2 := cell_fresh z20_2 hy; have z22_3 := cell_fresh z20_3 hy; have z22_4 := cell_fresh z20_4 hy; have z22_5 := cell_fresh z20_5 hy; have fy21_ := fresh_trans H_fy19_.out hy; have H_fy21_ := Lib.hid fy21_; clear r hy fy21_))
  have Fy21_ := H_fy21_.out
  have H_Fy21_ := Lib.hid Fy21_
  clear Fy21_
  go_wp2_with (fail)
  go_region_held3 (fun (w' : World) => w'.cell? ⟨g, 0, none⟩ = some (.bool n1) ∧ w'.cell? ⟨g, 1, none⟩ = some (.int .i8 s1) ∧ w'.cell? ⟨g, 2, none⟩ = some (.int .u64 c1) ∧ w'.cell? ⟨g + 1, 0, none⟩ = some (.bool n2) ∧ w'.cell? ⟨g + 1, 1, none⟩ = some (.int .i8 s2) ∧ w'.cell? ⟨g + 1, 2, none⟩ = some (.int .u64 c2)) (first | exact ⟨z22_0, z22_1, z22_2, z22_3, z22_4, z22_5⟩ | exact ⟨z24_0, z24_1, z24_2, z24_3, z24_4, z24_5⟩ | exact ⟨z26_0, z26_1, z26_2, z26_3, z26_4, z26_5⟩) (first
    | (go_at_call 93; (with_reducible refine (Scale_any n1 s1 c1 _ hs1).mono ?_); rintro e y23_ ⟨rfl, r⟩; have hy : Fresh y21_ y23_ := (by first | exact r | exact r.of_drew | exact r.of_drewN); have z24_0 := cell_fresh z22_0 hy; have z24_1 := cell_fresh z22_1 hy; have z24_2 := cell_fresh z22_2 hy; have z24_3 := cell_fresh z22_3 hy; have z24_4 := cell_fresh z22_4 hy; have z24_5 := cell_fresh z22_5 hy; have fy23_ := hy; have H_fy23_ := Lib.hid fy23_; clear r hy fy23_)
    | (go_at_call 93; (with_reducible refine (Scale_any n2 s2 c2 _ hs2).mono ?_); rintro e y25_ ⟨rfl, r⟩; have hy : Fresh y23_ y25_ := r; have z26_0 := cell_fresh z24_0 hy; have z26_1 := cell_fresh z24_1 hy; have z26_2 := cell_fresh z24_2 hy; have z26_3 := cell_fresh z24_3 hy; have z26_4 := cell_fresh z24_4 hy; have z26_5 := cell_fresh z24_5 hy; have fy25_ := fresh_trans H_fy23_.out hy; have H_fy25_ := Lib.hid fy25_; clear r hy fy25_)
    | (go_at_call 108; (with_reducible refine (H_hlsh.out _ (fresh_trans (fresh_trans H_hf.out H_Fy21_.out) H_fy25_.out)).mono ?_); rintro e y27_ ⟨rfl, hsame⟩; subst hsame))
  have Fy25_ := fresh_trans H_Fy21_.out H_fy25_.out
  have H_Fy25_ := Lib.hid Fy25_
  clear Fy25_
  obtain ⟨ae, hae⟩ := (H_hE.out.fresh (fresh_trans H_hf.out H_Fy25_.out))
  go_wp2_with (fail)
  go_region_held3 (fun (w' : World) => w'.cell? ⟨0, 0, none⟩ = some (.iface 115 (.pointer (some ae)))) (first | exact hae) (fail)
  go_wp2
  go_ret2
  exact ⟨(fresh_trans H_hf.out H_Fy25_.out).drewN 1, .inr ⟨ae, rfl⟩⟩

set_option maxRecDepth 20000 in
set_option maxHeartbeats 4000000 in
theorem cmpFint_ltf (n1 n2 : Bool) (c1 s1 c2 s2 : Nat) (w : World) (hP : Pow10s w) (hE : ErrIs w) (hs1 : s1 ≤ 19) (hs2 : s2 ≤ 19) (hc1 : c1 ≤ 9999999999999999999) (_hc2 : c2 ≤ 9999999999999999999) (hsg : gsign n1 c1 = gsign n2 c2) (hlt : s1 < s2) (hfit : c1 * 10 ^ (s2 - s1) ≤ 9999999999999999999) :
    Calls Tryz.prog 86 #[gd n1 s1 c1, gd n2 s2 c2] w (CRet w (cmpA (gsign n1 c1) (c1 * 10 ^ (s2 - s1)) (c2 * 10 ^ (s1 - s2)))) := by
  have hsd := fun W => Sign_any n1 s1 c1 W
  have hse := fun W => Sign_any n2 s2 c2 W
  have hbd := gsign_bd n1 c1
  rw [← hsg] at hse
  generalize gsign n1 c1 = sg at *
  clear hsg
  have tw : IntKind.i64.wrap (-sg) = -sg := by rw [IntKind.wrap_i64]; omega
  rw [show s1 - s2 = 0 by omega, Nat.pow_zero, Nat.mul_one]
  have hlsh := fun W (hW : Fresh w W) => flsh_any c1 (s2 - s1) W (hP.fresh hW) hc1 (by omega)
  have hnlt : ¬ s2 < s1 := by omega
  have t0 : decide ((s2 : Int) < (s1 : Int)) = false := by simp; omega
  have t1 : decide ((s1 : Int) < (s2 : Int)) = true := by simp; omega
  obtain ⟨k, hk⟩ : ∃ k, k = s2 - s1 := ⟨_, rfl⟩
  rw [← hk] at hlsh hfit ⊢
  have hkI : (s2 : Int) - (s1 : Int) = (k : Int) := by omega
  have hkw : IntKind.i64.wrap (k : Int) = (k : Int) := wrap_nat k (by omega)
  obtain ⟨b, hb⟩ : ∃ b, b = c1 * 10 ^ k := ⟨_, rfl⟩
  rw [← hb] at hlsh hfit ⊢
  have hm : mulTo b = .tuple #[.int .u64 b, .bool true] := by unfold mulTo; rw [if_pos hfit]
  rw [hm] at hlsh
  clear hm hb hk
  have H_hlsh := Lib.hid hlsh; clear hlsh
  obtain ⟨g, hg⟩ : ∃ g, g = w.heap.size := ⟨_, rfl⟩
  have bx := boxes2 w #[.bool n1, .int .i8 s1, .int .u64 c1] #[.bool n2, .int .i8 s2, .int .u64 c2] 62 62 g hg
  clear hbd
  have H_bx := Lib.hid bx; clear bx
  have H_hP := Lib.hid hP; clear hP
  have H_hE := Lib.hid hE; clear hE
  have H_hsd := Lib.hid hsd; clear hsd
  have H_hse := Lib.hid hse; clear hse
  go_enter Tryz.func86, Tryz.ntmps86
  go_wp2_with (fail)
  generalize hw1 : (w.alloc _).alloc _ = w1
  rw [← hg]
  obtain ⟨b1, b2, hf⟩ := H_bx.out w1 hw1
  have k0 := row_cell b1 0
  have k1 := row_cell b1 1
  have k2 := row_cell b1 2
  simp at k0 k1 k2
  have k3 := row_cell b2 0
  have k4 := row_cell b2 1
  have k5 := row_cell b2 2
  simp at k3 k4 k5
  have H_b1 := Lib.hid b1; clear b1
  have H_b2 := Lib.hid b2; clear b2
  have H_hf := Lib.hid hf; clear hf
  have H_hw1 := Lib.hid hw1; clear hw1
  have H_hg := Lib.hid hg; clear hg
  go_region_held3 (fun (w' : World) => w'.cell? ⟨g, 0, none⟩ = some (.bool n1) ∧ w'.cell? ⟨g, 1, none⟩ = some (.int .i8 s1) ∧ w'.cell? ⟨g, 2, none⟩ = some (.int .u64 c1) ∧ w'.cell? ⟨g + 1, 0, none⟩ = some (.bool n2) ∧ w'.cell? ⟨g + 1, 1, none⟩ = some (.int .i8 s2) ∧ w'.cell? ⟨g + 1, 2, none⟩ = some (.int .u64 c2)) (first | exact ⟨k0, k1, k2, k3, k4, k5⟩ | exact ⟨z30_0, z30_1, z30_2, z30_3, z30_4, z30_5⟩ | exact ⟨z32_0, z32_1, z32_2, z32_3, z32_4, z32_5⟩) (first
    | (go_at_call 93; (with_reducible refine (Scale_any n1 s1 c1 _ hs1).mono ?_); rintro e y29_ ⟨rfl, r⟩; have hy : Fresh w1 y29_ := (by first | exact r | exact r.of_drew | exact r.of_drewN); have z30_0 := cell_fresh k0 hy; have z30_1 := cell_fresh k1 hy; have z30_2 := cell_fresh k2 hy; have z30_3 := cell_fresh k3 hy; have z30_4 := cell_fresh k4 hy; have z30_5 := cell_fresh k5 hy; have fy29_ := hy; have H_fy29_ := Lib.hid fy29_; clear r hy fy29_)
    | (go_at_call 93; (with_reducible refine (Scale_any n2 s2 c2 _ hs2).mono ?_); rintro e y31_ ⟨rfl, r⟩; have hy : Fresh y29_ y31_ := r; have z32_0 := cell_fresh z30_0 hy; have z32_1 := cell_fresh z30_1 hy; have z32_2 := cell_fresh z30_2 hy; have z32_3 := cell_fresh z30_3 hy; have z32_4 := cell_fresh z30_4 hy; have z32_5 := cell_fresh z30_5 hy; have fy31_ := fresh_trans H_fy29_.out hy; have H_fy31_ := Lib.hid fy31_; clear r hy fy31_))
  have Fy31_ := H_fy31_.out
  have H_Fy31_ := Lib.hid Fy31_
  clear Fy31_
  go_wp2_with (fail)
  go_region_held3 (fun (w' : World) => w'.cell? ⟨g, 0, none⟩ = some (.bool n1) ∧ w'.cell? ⟨g, 1, none⟩ = some (.int .i8 s1) ∧ w'.cell? ⟨g, 2, none⟩ = some (.int .u64 c1) ∧ w'.cell? ⟨g + 1, 0, none⟩ = some (.bool n2) ∧ w'.cell? ⟨g + 1, 1, none⟩ = some (.int .i8 s2) ∧ w'.cell? ⟨g + 1, 2, none⟩ = some (.int .u64 c2)) (first | exact ⟨z32_0, z32_1, z32_2, z32_3, z32_4, z32_5⟩ | exact ⟨z34_0, z34_1, z34_2, z34_3, z34_4, z34_5⟩ | exact ⟨z36_0, z36_1, z36_2, z36_3, z36_4, z36_5⟩) (first
    | (go_at_call 93; (with_reducible refine (Scale_any n1 s1 c1 _ hs1).mono ?_); rintro e y33_ ⟨rfl, r⟩; have hy : Fresh y31_ y33_ := (by first | exact r | exact r.of_drew | exact r.of_drewN); have z34_0 := cell_fresh z32_0 hy; have z34_1 := cell_fresh z32_1 hy; have z34_2 := cell_fresh z32_2 hy; have z34_3 := cell_fresh z32_3 hy; have z34_4 := cell_fresh z32_4 hy; have z34_5 := cell_fresh z32_5 hy; have fy33_ := hy; have H_fy33_ := Lib.hid fy33_; clear r hy fy33_)
    | (go_at_call 93; (with_reducible refine (Scale_any n2 s2 c2 _ hs2).mono ?_); rintro e y35_ ⟨rfl, r⟩; have hy : Fresh y33_ y35_ := r; have z36_0 := cell_fresh z34_0 hy; have z36_1 := cell_fresh z34_1 hy; have z36_2 := cell_fresh z34_2 hy; have z36_3 := cell_fresh z34_3 hy; have z36_4 := cell_fresh z34_4 hy; have z36_5 := cell_fresh z34_5 hy; have fy35_ := fresh_trans H_fy33_.out hy; have H_fy35_ := Lib.hid fy35_; clear r hy fy35_))
  have Fy35_ := fresh_trans H_Fy31_.out H_fy35_.out
  have H_Fy35_ := Lib.hid Fy35_
  clear Fy35_
  go_wp2_with (fail)
  go_region_held3 (fun (w' : World) => w'.cell? ⟨g, 0, none⟩ = some (.bool n1) ∧ w'.cell? ⟨g, 1, none⟩ = some (.int .i8 s1) ∧ w'.cell? ⟨g, 2, none⟩ = some (.int .u64 c1) ∧ w'.cell? ⟨g + 1, 0, none⟩ = some (.bool n2) ∧ w'.cell? ⟨g + 1, 1, none⟩ = some (.int .i8 s2) ∧ w'.cell? ⟨g + 1, 2, none⟩ = some (.int .u64 c2)) (first | exact ⟨z36_0, z36_1, z36_2, z36_3, z36_4, z36_5⟩ | exact ⟨z38_0, z38_1, z38_2, z38_3, z38_4, z38_5⟩ | exact ⟨z40_0, z40_1, z40_2, z40_3, z40_4, z40_5⟩) (first
    | (go_at_call 93; (with_reducible refine (Scale_any n2 s2 c2 _ hs2).mono ?_); rintro e y37_ ⟨rfl, r⟩; have hy : Fresh y35_ y37_ := (by first | exact r | exact r.of_drew | exact r.of_drewN); have z38_0 := cell_fresh z36_0 hy; have z38_1 := cell_fresh z36_1 hy; have z38_2 := cell_fresh z36_2 hy; have z38_3 := cell_fresh z36_3 hy; have z38_4 := cell_fresh z36_4 hy; have z38_5 := cell_fresh z36_5 hy; have fy37_ := hy; have H_fy37_ := Lib.hid fy37_; clear r hy fy37_)
    | (go_at_call 93; (with_reducible refine (Scale_any n1 s1 c1 _ hs1).mono ?_); rintro e y39_ ⟨rfl, r⟩; have hy : Fresh y37_ y39_ := r; have z40_0 := cell_fresh z38_0 hy; have z40_1 := cell_fresh z38_1 hy; have z40_2 := cell_fresh z38_2 hy; have z40_3 := cell_fresh z38_3 hy; have z40_4 := cell_fresh z38_4 hy; have z40_5 := cell_fresh z38_5 hy; have fy39_ := fresh_trans H_fy37_.out hy; have H_fy39_ := Lib.hid fy39_; clear r hy fy39_)
    | (go_at_call 108; (with_reducible refine (H_hlsh.out _ (fresh_trans (fresh_trans H_hf.out H_Fy35_.out) H_fy39_.out)).mono ?_); rintro e y41_ ⟨rfl, hsame⟩; subst hsame))
  have Fy39_ := fresh_trans H_Fy35_.out H_fy39_.out
  have H_Fy39_ := Lib.hid Fy39_
  clear Fy39_
  rcases Nat.lt_trichotomy b c2 with hcc | hcc | hcc
  · have hv : cmpA sg b c2 = -sg := by unfold cmpA; rw [if_neg (by omega), if_pos (by omega)]
    have hn5 : ¬ c2 < b := by omega
    have hn6 : b < c2 := by omega
    have t5 : decide ((c2 : Int) < (b : Int)) = false := by simp; omega
    have t6 : decide ((b : Int) < (c2 : Int)) = true := by simp; omega
    have H_hv := Lib.hid hv
    clear hv hcc
    go_wp2_with (fail)
    refine (H_hse.out _).mono ?_
    rintro e wz ⟨rfl, r⟩
    have H_rz := Lib.hid r
    clear r
    go_wp2_with (fail)
    go_ret2
    exact ⟨fresh_trans (fresh_trans H_hf.out H_Fy39_.out) H_rz.out, .inl (by rw [H_hv.out]; rfl)⟩
  · have hv : cmpA sg b c2 = 0 := by unfold cmpA; rw [if_neg (by omega), if_neg (by omega)]
    have hn5 : ¬ c2 < b := by omega
    have hn6 : ¬ b < c2 := by omega
    have t5 : decide ((c2 : Int) < (b : Int)) = false := by simp; omega
    have t6 : decide ((b : Int) < (c2 : Int)) = false := by simp; omega
    have H_hv := Lib.hid hv
    clear hv hcc
    go_wp2_with (fail)
    go_ret2
    exact ⟨fresh_trans H_hf.out H_Fy39_.out, .inl (by rw [H_hv.out]; rfl)⟩
  · have hv : cmpA sg b c2 = sg := by unfold cmpA; rw [if_pos (by omega)]
    have hn5 : c2 < b := by omega
    have hn6 : ¬ b < c2 := by omega
    have t5 : decide ((c2 : Int) < (b : Int)) = true := by simp; omega
    have t6 : decide ((b : Int) < (c2 : Int)) = false := by simp; omega
    have H_hv := Lib.hid hv
    clear hv hcc
    go_wp2_with (fail)
    refine (H_hsd.out _).mono ?_
    rintro e wz ⟨rfl, r⟩
    have H_rz := Lib.hid r
    clear r
    go_wp2_with (fail)
    go_ret2
    exact ⟨fresh_trans (fresh_trans H_hf.out H_Fy39_.out) H_rz.out, .inl (by rw [H_hv.out]; rfl)⟩

set_option maxRecDepth 20000 in
set_option maxHeartbeats 4000000 in
theorem cmpFint_lto (n1 n2 : Bool) (c1 s1 c2 s2 : Nat) (w : World) (hP : Pow10s w) (hE : ErrIs w) (hs1 : s1 ≤ 19) (hs2 : s2 ≤ 19) (hc1 : c1 ≤ 9999999999999999999) (_hc2 : c2 ≤ 9999999999999999999) (hsg : gsign n1 c1 = gsign n2 c2) (hlt : s1 < s2) (hfit : ¬ c1 * 10 ^ (s2 - s1) ≤ 9999999999999999999) :
    Calls Tryz.prog 86 #[gd n1 s1 c1, gd n2 s2 c2] w (CRet w (cmpA (gsign n1 c1) (c1 * 10 ^ (s2 - s1)) (c2 * 10 ^ (s1 - s2)))) := by
  have hsd := fun W => Sign_any n1 s1 c1 W
  have hse := fun W => Sign_any n2 s2 c2 W
  have hbd := gsign_bd n1 c1
  rw [← hsg] at hse
  generalize gsign n1 c1 = sg at *
  clear hsg
  have tw : IntKind.i64.wrap (-sg) = -sg := by rw [IntKind.wrap_i64]; omega
  rw [show s1 - s2 = 0 by omega, Nat.pow_zero, Nat.mul_one]
  have hlsh := fun W (hW : Fresh w W) => flsh_any c1 (s2 - s1) W (hP.fresh hW) hc1 (by omega)
  have hnlt : ¬ s2 < s1 := by omega
  have t0 : decide ((s2 : Int) < (s1 : Int)) = false := by simp; omega
  have t1 : decide ((s1 : Int) < (s2 : Int)) = true := by simp; omega
  obtain ⟨k, hk⟩ : ∃ k, k = s2 - s1 := ⟨_, rfl⟩
  rw [← hk] at hlsh hfit ⊢
  have hkI : (s2 : Int) - (s1 : Int) = (k : Int) := by omega
  have hkw : IntKind.i64.wrap (k : Int) = (k : Int) := wrap_nat k (by omega)
  obtain ⟨b, hb⟩ : ∃ b, b = c1 * 10 ^ k := ⟨_, rfl⟩
  rw [← hb] at hlsh hfit ⊢
  have hm : mulTo b = .tuple #[.int .u64 0, .bool false] := by unfold mulTo; rw [if_neg hfit]
  rw [hm] at hlsh
  clear hm hb hk
  have H_hlsh := Lib.hid hlsh; clear hlsh
  clear hfit
  obtain ⟨g, hg⟩ : ∃ g, g = w.heap.size := ⟨_, rfl⟩
  have bx := boxes2 w #[.bool n1, .int .i8 s1, .int .u64 c1] #[.bool n2, .int .i8 s2, .int .u64 c2] 62 62 g hg
  clear hbd
  have H_bx := Lib.hid bx; clear bx
  have H_hP := Lib.hid hP; clear hP
  have H_hE := Lib.hid hE; clear hE
  have H_hsd := Lib.hid hsd; clear hsd
  have H_hse := Lib.hid hse; clear hse
  go_enter Tryz.func86, Tryz.ntmps86
  go_wp2_with (fail)
  generalize hw1 : (w.alloc _).alloc _ = w1
  rw [← hg]
  obtain ⟨b1, b2, hf⟩ := H_bx.out w1 hw1
  have k0 := row_cell b1 0
  have k1 := row_cell b1 1
  have k2 := row_cell b1 2
  simp at k0 k1 k2
  have k3 := row_cell b2 0
  have k4 := row_cell b2 1
  have k5 := row_cell b2 2
  simp at k3 k4 k5
  have H_b1 := Lib.hid b1; clear b1
  have H_b2 := Lib.hid b2; clear b2
  have H_hf := Lib.hid hf; clear hf
  have H_hw1 := Lib.hid hw1; clear hw1
  have H_hg := Lib.hid hg; clear hg
  go_region_held3 (fun (w' : World) => w'.cell? ⟨g, 0, none⟩ = some (.bool n1) ∧ w'.cell? ⟨g, 1, none⟩ = some (.int .i8 s1) ∧ w'.cell? ⟨g, 2, none⟩ = some (.int .u64 c1) ∧ w'.cell? ⟨g + 1, 0, none⟩ = some (.bool n2) ∧ w'.cell? ⟨g + 1, 1, none⟩ = some (.int .i8 s2) ∧ w'.cell? ⟨g + 1, 2, none⟩ = some (.int .u64 c2)) (first | exact ⟨k0, k1, k2, k3, k4, k5⟩ | exact ⟨z44_0, z44_1, z44_2, z44_3, z44_4, z44_5⟩ | exact ⟨z46_0, z46_1, z46_2, z46_3, z46_4, z46_5⟩) (first
    | (go_at_call 93; (with_reducible refine (Scale_any n1 s1 c1 _ hs1).mono ?_); rintro e y43_ ⟨rfl, r⟩; have hy : Fresh w1 y43_ := (by first | exact r | exact r.of_drew | exact r.of_drewN); have z44_0 := cell_fresh k0 hy; have z44_1 := cell_fresh k1 hy; have z44_2 := cell_fresh k2 hy; have z44_3 := cell_fresh k3 hy; have z44_4 := cell_fresh k4 hy; have z44_5 := cell_fresh k5 hy; have fy43_ := hy; have H_fy43_ := Lib.hid fy43_; clear r hy fy43_)
    | (go_at_call 93; (with_reducible refine (Scale_any n2 s2 c2 _ hs2).mono ?_); rintro e y45_ ⟨rfl, r⟩; have hy : Fresh y43_ y45_ := r; have z46_0 := cell_fresh z44_0 hy; have z46_1 := cell_fresh z44_1 hy; have z46_2 := cell_fresh z44_2 hy; have z46_3 := cell_fresh z44_3 hy; have z46_4 := cell_fresh z44_4 hy; have z46_5 := cell_fresh z44_5 hy; have fy45_ := fresh_trans H_fy43_.out hy; have H_fy45_ := Lib.hid fy45_; clear r hy fy45_))
  have Fy45_ := H_fy45_.out
  have H_Fy45_ := Lib.hid Fy45_
  clear Fy45_
  go_wp2_with (fail)
  go_region_held3 (fun (w' : World) => w'.cell? ⟨g, 0, none⟩ = some (.bool n1) ∧ w'.cell? ⟨g, 1, none⟩ = some (.int .i8 s1) ∧ w'.cell? ⟨g, 2, none⟩ = some (.int .u64 c1) ∧ w'.cell? ⟨g + 1, 0, none⟩ = some (.bool n2) ∧ w'.cell? ⟨g + 1, 1, none⟩ = some (.int .i8 s2) ∧ w'.cell? ⟨g + 1, 2, none⟩ = some (.int .u64 c2)) (first | exact ⟨z46_0, z46_1, z46_2, z46_3, z46_4, z46_5⟩ | exact ⟨z48_0, z48_1, z48_2, z48_3, z48_4, z48_5⟩ | exact ⟨z50_0, z50_1, z50_2, z50_3, z50_4, z50_5⟩) (first
    | (go_at_call 93; (with_reducible refine (Scale_any n1 s1 c1 _ hs1).mono ?_); rintro e y47_ ⟨rfl, r⟩; have hy : Fresh y45_ y47_ := (by first | exact r | exact r.of_drew | exact r.of_drewN); have z48_0 := cell_fresh z46_0 hy; have z48_1 := cell_fresh z46_1 hy; have z48_2 := cell_fresh z46_2 hy; have z48_3 := cell_fresh z46_3 hy; have z48_4 := cell_fresh z46_4 hy; have z48_5 := cell_fresh z46_5 hy; have fy47_ := hy; have H_fy47_ := Lib.hid fy47_; clear r hy fy47_)
    | (go_at_call 93; (with_reducible refine (Scale_any n2 s2 c2 _ hs2).mono ?_); rintro e y49_ ⟨rfl, r⟩; have hy : Fresh y47_ y49_ := r; have z50_0 := cell_fresh z48_0 hy; have z50_1 := cell_fresh z48_1 hy; have z50_2 := cell_fresh z48_2 hy; have z50_3 := cell_fresh z48_3 hy; have z50_4 := cell_fresh z48_4 hy; have z50_5 := cell_fresh z48_5 hy; have fy49_ := fresh_trans H_fy47_.out hy; have H_fy49_ := Lib.hid fy49_; clear r hy fy49_))
  have Fy49_ := fresh_trans H_Fy45_.out H_fy49_.out
  have H_Fy49_ := Lib.hid Fy49_
  clear Fy49_
  go_wp2_with (fail)
  go_region_held3 (fun (w' : World) => w'.cell? ⟨g, 0, none⟩ = some (.bool n1) ∧ w'.cell? ⟨g, 1, none⟩ = some (.int .i8 s1) ∧ w'.cell? ⟨g, 2, none⟩ = some (.int .u64 c1) ∧ w'.cell? ⟨g + 1, 0, none⟩ = some (.bool n2) ∧ w'.cell? ⟨g + 1, 1, none⟩ = some (.int .i8 s2) ∧ w'.cell? ⟨g + 1, 2, none⟩ = some (.int .u64 c2)) (first | exact ⟨z50_0, z50_1, z50_2, z50_3, z50_4, z50_5⟩ | exact ⟨z52_0, z52_1, z52_2, z52_3, z52_4, z52_5⟩ | exact ⟨z54_0, z54_1, z54_2, z54_3, z54_4, z54_5⟩) (first
    | (go_at_call 93; (with_reducible refine (Scale_any n2 s2 c2 _ hs2).mono ?_); rintro e y51_ ⟨rfl, r⟩; have hy : Fresh y49_ y51_ := (by first | exact r | exact r.of_drew | exact r.of_drewN); have z52_0 := cell_fresh z50_0 hy; have z52_1 := cell_fresh z50_1 hy; have z52_2 := cell_fresh z50_2 hy; have z52_3 := cell_fresh z50_3 hy; have z52_4 := cell_fresh z50_4 hy; have z52_5 := cell_fresh z50_5 hy; have fy51_ := hy; have H_fy51_ := Lib.hid fy51_; clear r hy fy51_)
    | (go_at_call 93; (with_reducible refine (Scale_any n1 s1 c1 _ hs1).mono ?_); rintro e y53_ ⟨rfl, r⟩; have hy : Fresh y51_ y53_ := r; have z54_0 := cell_fresh z52_0 hy; have z54_1 := cell_fresh z52_1 hy; have z54_2 := cell_fresh z52_2 hy; have z54_3 := cell_fresh z52_3 hy; have z54_4 := cell_fresh z52_4 hy; have z54_5 := cell_fresh z52_5 hy; have fy53_ := fresh_trans H_fy51_.out hy; have H_fy53_ := Lib.hid fy53_; clear r hy fy53_)
    | (go_at_call 108; (with_reducible refine (H_hlsh.out _ (fresh_trans (fresh_trans H_hf.out H_Fy49_.out) H_fy53_.out)).mono ?_); rintro e y55_ ⟨rfl, hsame⟩; subst hsame))
  have Fy53_ := fresh_trans H_Fy49_.out H_fy53_.out
  have H_Fy53_ := Lib.hid Fy53_
  clear Fy53_
  obtain ⟨ae, hae⟩ := (H_hE.out.fresh (fresh_trans H_hf.out H_Fy53_.out))
  go_wp2_with (fail)
  go_region_held3 (fun (w' : World) => w'.cell? ⟨0, 0, none⟩ = some (.iface 115 (.pointer (some ae)))) (first | exact hae) (fail)
  go_wp2
  go_ret2
  exact ⟨(fresh_trans H_hf.out H_Fy53_.out).drewN 1, .inr ⟨ae, rfl⟩⟩

theorem cmpFint_any (n1 n2 : Bool) (c1 s1 c2 s2 : Nat) (w : World) (hP : Pow10s w) (hE : ErrIs w) (hs1 : s1 ≤ 19) (hs2 : s2 ≤ 19) (hc1 : c1 ≤ 9999999999999999999) (hc2 : c2 ≤ 9999999999999999999) (hsg : gsign n1 c1 = gsign n2 c2) :
    Calls Tryz.prog 86 #[gd n1 s1 c1, gd n2 s2 c2] w (CRet w (cmpA (gsign n1 c1) (c1 * 10 ^ (s2 - s1)) (c2 * 10 ^ (s1 - s2)))) := by
  rcases Nat.lt_trichotomy s1 s2 with h | h | h
  · by_cases hfit : c1 * 10 ^ (s2 - s1) ≤ 9999999999999999999
    · exact cmpFint_ltf n1 n2 c1 s1 c2 s2 w hP hE hs1 hs2 hc1 hc2 hsg h hfit
    · exact cmpFint_lto n1 n2 c1 s1 c2 s2 w hP hE hs1 hs2 hc1 hc2 hsg h hfit
  · exact cmpFint_eq n1 n2 c1 s1 c2 s2 w hP hE hs1 hs2 hc1 hc2 hsg h
  · by_cases hfit : c2 * 10 ^ (s1 - s2) ≤ 9999999999999999999
    · exact cmpFint_gtf n1 n2 c1 s1 c2 s2 w hP hE hs1 hs2 hc1 hc2 hsg h hfit
    · exact cmpFint_gto n1 n2 c1 s1 c2 s2 w hP hE hs1 hs2 hc1 hc2 hsg h hfit

end Go.Proofs.YtibaeafmgncjdaaGreatDoor
