/- What the laid variables of math/big, and the sentinel errors, hold. -/
import Derived.Test.YtecadiflbfpofaaGreatDoorJ6
import Derived.Test.YtecadiflbfpofaaGreatDoorJ9
import Derived.Test.YtecadiflbfpofaaGreatDoorJ12
import Derived.Test.YtecadiflbfpofaaGreatDoorJ13
namespace Go.Proofs.YtecadiflbfpofaaGreatDoor
open Go Go.ChangeShapes Go.WideShapes Go.ChangeAt Go.RowKit Go.Lib Go.Joins

theorem int_of_laid {W : World} {name : String} {n : Int} {rest : List (String × DataW Unit)} {g : Nat} {t : TypeId} (hg : Tryz.prog.globalNamed name = some g) (hty : (Tryz.prog.globals[g]?).map (·.type) = some t) (ht : Tryz.prog.underlying t = some (.int .i64))
    (h : laidMet Tryz.prog ((name, .lit (.int .i64 n)) :: rest) W) : W.cell? ⟨g, 0, none⟩ = some (.int .i64 n) := by
  obtain ⟨ps, ⟨g', t', cs, fuel, p, q, hg', ht', hvar, hd, _, _⟩, _⟩ := h
  obtain rfl := Option.some.inj (hg.symm.trans hg')
  obtain rfl := Option.some.inj (hty.symm.trans ht')
  obtain ⟨k, e1, e2, _⟩ := DataW.trod_int ht hd
  have hk : n = k := by simpa using congrArg Prod.fst e2
  subst hk
  have := World.var?_cell hg hvar 0
  rw [Array.eq_one_of_toList e1] at this
  simpa using this

set_option maxRecDepth 100000 in
theorem row_errorString (u : TypeId) (h : Tryz.prog.typeName? 3 u = some "*errors.errorString") : u = 111 := by
  have star : "*" ++ "errors.errorString" = "*errors.errorString" := by decide
  exact typeName_ptr_named (nm := "errors.errorString") (by rw [star]; kernel_rfl) (by kernel_rfl) (by decide) u (by rw [star]; exact h)

/-- the variable of the fault 'overflow' holds an error -/
def ErrIs (w : World) : Prop := ∃ a : Addr, w.cell? ⟨0, 0, none⟩ = some (.iface 111 (.pointer (some a)))

theorem ErrIs.fresh {w w' : World} (h : ErrIs w) (hk : Fresh w w') : ErrIs w' := by
  obtain ⟨a, h⟩ := h
  exact ⟨a, cell_fresh h hk⟩

theorem size_of_cell {w : World} {g : Nat} {v : Value} (h : w.cell? ⟨g, 0, none⟩ = some v) : g < w.heap.size := World.block_lt_of_cell? w _ h

theorem glob_of {W : World} (h1 : W.cell? ⟨5, 0, none⟩ = some (.int .i64 40)) (h2 : W.cell? ⟨3, 0, none⟩ = some (.int .i64 12))
    (h3 : W.cell? ⟨4, 0, none⟩ = some (.int .i64 80)) (h4 : W.cell? ⟨6, 0, none⟩ = some (.int .i64 40)) : Glob W := by
  have s1 := size_of_cell h1
  have s2 := size_of_cell h2
  have s3 := size_of_cell h3
  have s4 := size_of_cell h4
  exact ⟨by unfold NG; omega, h1, h2, h3, h4⟩

end Go.Proofs.YtecadiflbfpofaaGreatDoor

/- govalues' decimals compared by whole numbers of 64 bits: cmpFint. -/
namespace Go.Proofs.YtecadiflbfpofaaGreatDoor
open Go.RowKit

/-- how two decimals of one sign compare, or the fault that there was no room -/
def CRet (w : World) (r : Int) (e : Ending) (w' : World) : Prop :=
  Fresh w w' ∧ (e = .returned (.tuple #[.int .i64 r, .nilIface]) ∨ ∃ a : Addr, e = .returned (.tuple #[.int .i64 0, .iface 111 (.pointer (some a))]))

theorem gsign_bd (n : Bool) (c : Nat) : -1 ≤ gsign n c ∧ gsign n c ≤ 1 := by
  unfold gsign
  split
  · omega
  · split <;> omega

set_option maxRecDepth 20000 in
set_option maxHeartbeats 4000000 in
theorem cmpFint_eq (n1 n2 : Bool) (c1 s1 c2 s2 : Nat) (w : World) (hP : Pow10s w) (hE : ErrIs w) (hs1 : s1 ≤ 19) (hs2 : s2 ≤ 19) (_hc1 : c1 ≤ 9999999999999999999) (_hc2 : c2 ≤ 9999999999999999999) (hsg : gsign n1 c1 = gsign n2 c2) (hlt : s1 = s2) :
    Calls Tryz.prog 71 #[gd n1 s1 c1, gd n2 s2 c2] w (CRet w (cmpA (gsign n1 c1) (c1 * 10 ^ (s2 - s1)) (c2 * 10 ^ (s1 - s2)))) := by
  have hsd := fun W => Sign_any n1 s1 c1 W
  have hse := fun W => Sign_any n2 s2 c2 W
  have hbd := gsign_bd n1 c1
  rw [← hsg] at hse
  generalize gsign n1 c1 = sg at *
  clear hsg
  have tw : IntKind.i64.wrap (-sg) = -sg := by rw [IntKind.wrap_i64]; omega
  subst hlt
  rw [Nat.sub_self, Nat.pow_zero, Nat.mul_one, Nat.mul_one]
  have t1 : decide ((s1 : Int) < (s1 : Int)) = false := by simp
  obtain ⟨g, hg⟩ : ∃ g, g = w.heap.size := ⟨_, rfl⟩
  have bx := boxes2 w #[.bool n1, .int .i8 s1, .int .u64 c1] #[.bool n2, .int .i8 s1, .int .u64 c2] 65 65 g hg
  clear hbd
  have H_bx := Lib.hid bx; clear bx
  have H_hP := Lib.hid hP; clear hP
  have H_hE := Lib.hid hE; clear hE
  have H_hsd := Lib.hid hsd; clear hsd
  have H_hse := Lib.hid hse; clear hse
  go_enter Tryz.func71, Tryz.ntmps71
  go_wp2_with (fail)
  generalize hw1 : (w.alloc _).alloc _ = w1
  rw [← hg]
  obtain ⟨b1, b2, hf⟩ := H_bx.out w1 hw1
  have k0 := row_cell b1 0
  have k1 := row_cell b1 1
  have k2 := row_cell b1 2
  simp at k0 k1 k2
  have k3 := row_cell b2 0
  have k4 := row_cell b2 1
  have k5 := row_cell b2 2
  simp at k3 k4 k5
  have H_b1 := Lib.hid b1; clear b1
  have H_b2 := Lib.hid b2; clear b2
  have H_hf := Lib.hid hf; clear hf
  have H_hw1 := Lib.hid hw1; clear hw1
  have H_hg := Lib.hid hg; clear hg
  go_region_held3 (fun (w' : World) => w'.cell? ⟨g, 0, none⟩ = some (.bool n1) ∧ w'.cell? ⟨g, 1, none⟩ = some (.int .i8 s1) ∧ w'.cell? ⟨g, 2, none⟩ = some (.int .u64 c1) ∧ w'.cell? ⟨g + 1, 0, none⟩ = some (.bool n2) ∧ w'.cell? ⟨g + 1, 1, none⟩ = some (.int .i8 s1) ∧ w'.cell? ⟨g + 1, 2, none⟩ = some (.int .u64 c2)) (first | exact ⟨k0, k1, k2, k3, k4, k5⟩ | exact ⟨z2_0, z2_1, z2_2, z2_3, z2_4, z2_5⟩ | exact ⟨z4_0, z4_1, z4_2, z4_3, z4_4, z4_5⟩) (first
    | (go_at_call 78; (with_reducible refine (Scale_any n1 s1 c1 _ hs1).mono ?_); rintro e y1_ ⟨rfl, r⟩; have hy : Fresh w1 y1_ := (by first | exact r | exact r.of_drew | exact r.of_drewN); have z2_0 := cell_fresh k0 hy; have z2_1 := cell_fresh k1 hy; have z2_2 := cell_fresh k2 hy; have z2_3 := cell_fresh k3 hy; have z2_4 := cell_fresh k4 hy; have z2_5 := cell_fresh k5 hy; have fy1_ := hy; have H_fy1_ := Lib.hid fy1_; clear r hy fy1_)
    | (go_at_call 78; (with_reducible refine (Scale_any n2 s1 c2 _ hs2).mono ?_); rintro e y3_ ⟨rfl, r⟩; have hy : Fresh y1_ y3_ := r; have z4_0 := cell_fresh z2_0 hy; have z4_1 := cell_fresh z2_1 hy; have z4_2 := cell_fresh z2_2 hy; have z4_3 := cell_fresh z2_3 hy; have z4_4 := cell_fresh z2_4 hy; have z4_5 := cell_fresh z2_5 hy; have fy3_ := fresh_trans H_fy1_.out hy; have H_fy3_ := Lib.hid fy3_; clear r hy fy3_))
  have Fy3_ := H_fy3_.out
  have H_Fy3_ := Lib.hid Fy3_
  clear Fy3_
  go_wp2_with (fail)
  go_region_held3 (fun (w' : World) => w'.cell? ⟨g, 0, none⟩ = some (.bool n1) ∧ w'.cell? ⟨g, 1, none⟩ = some (.int .i8 s1) ∧ w'.cell? ⟨g, 2, none⟩ = some (.int .u64 c1) ∧ w'.cell? ⟨g + 1, 0, none⟩ = some (.bool n2) ∧ w'.cell? ⟨g + 1, 1, none⟩ = some (.int .i8 s1) ∧ w'.cell? ⟨g + 1, 2, none⟩ = some (.int .u64 c2)) (first | exact ⟨z4_0, z4_1, z4_2, z4_3, z4_4, z4_5⟩ | exact ⟨z6_0, z6_1, z6_2, z6_3, z6_4, z6_5⟩ | exact ⟨z8_0, z8_1, z8_2, z8_3, z8_4, z8_5⟩) (first
    | (go_at_call 78; (with_reducible refine (Scale_any n1 s1 c1 _ hs1).mono ?_); rintro e y5_ ⟨rfl, r⟩; have hy : Fresh y3_ y5_ := (by first | exact r | exact r.of_drew | exact r.of_drewN); have z6_0 := cell_fresh z4_0 hy; have z6_1 := cell_fresh z4_1 hy; have z6_2 := cell_fresh z4_2 hy; have z6_3 := cell_fresh z4_3 hy; have z6_4 := cell_fresh z4_4 hy; have z6_5 := cell_fresh z4_5 hy; have fy5_ := hy; have H_fy5_ := Lib.hid fy5_; clear r hy fy5_)
    | (go_at_call 78; (with_reducible refine (Scale_any n2 s1 c2 _ hs2).mono ?_); rintro e y7_ ⟨rfl, r⟩; have hy : Fresh y5_ y7_ := r; have z8_0 := cell_fresh z6_0 hy; have z8_1 := cell_fresh z6_1 hy; have z8_2 := cell_fresh z6_2 hy; have z8_3 := cell_fresh z6_3 hy; have z8_4 := cell_fresh z6_4 hy; have z8_5 := cell_fresh z6_5 hy; have fy7_ := fresh_trans H_fy5_.out hy; have H_fy7_ := Lib.hid fy7_; clear r hy fy7_))
  have Fy7_ := fresh_trans H_Fy3_.out H_fy7_.out
  have H_Fy7_ := Lib.hid Fy7_
  clear Fy7_
  rcases Nat.lt_trichotomy c1 c2 with hcc | hcc | hcc
  · have hv : cmpA sg c1 c2 = -sg := by unfold cmpA; rw [if_neg (by omega), if_pos (by omega)]
    have hn5 : ¬ c2 < c1 := by omega
    have hn6 : c1 < c2 := by omega
    have t5 : decide ((c2 : Int) < (c1 : Int)) = false := by simp; omega
    have t6 : decide ((c1 : Int) < (c2 : Int)) = true := by simp; omega
    have H_hv := Lib.hid hv
    clear hv hcc
    go_wp2_with (fail)
    refine (H_hse.out _).mono ?_
    rintro e wz ⟨rfl, r⟩
    have H_rz := Lib.hid r
    clear r
    go_wp2_with (fail)
    go_ret2
    exact ⟨fresh_trans (fresh_trans H_hf.out H_Fy7_.out) H_rz.out, .inl (by rw [H_hv.out]; rfl)⟩
  · have hv : cmpA sg c1 c2 = 0 := by unfold cmpA; rw [if_neg (by omega), if_neg (by omega)]
    have hn5 : ¬ c2 < c1 := by omega
    have hn6 : ¬ c1 < c2 := by omega
    have t5 : decide ((c2 : Int) < (c1 : Int)) = false := by simp; omega
    have t6 : decide ((c1 : Int) < (c2 : Int)) = false := by simp; omega
    have H_hv := Lib.hid hv
    clear hv hcc
    go_wp2_with (fail)
    go_ret2
    exact ⟨fresh_trans H_hf.out H_Fy7_.out, .inl (by rw [H_hv.out]; rfl)⟩
  · have hv : cmpA sg c1 c2 = sg := by unfold cmpA; rw [if_pos (by omega)]
    have hn5 : c2 < c1 := by omega
    have hn6 : ¬ c1 < c2 := by omega
    have t5 : decide ((c2 : Int) < (c1 : Int)) = true := by simp; omega
    have t6 : decide ((c1 : Int) < (c2 : Int)) = false := by simp; omega
    have H_hv := Lib.hid hv
    clear hv hcc
    go_wp2_with (fail)
    refine (H_hsd.out _).mono ?_
    rintro e wz ⟨rfl, r⟩
    have H_rz := Lib.hid r
    clear r
    go_wp2_with (fail)
    go_ret2
    exact ⟨fresh_trans (fresh_trans H_hf.out H_Fy7_.out) H_rz.out, .inl (by rw [H_hv.out]; rfl)⟩

set_option maxRecDepth 20000 in
set_option maxHeartbeats 4000000 in
theorem cmpFint_gtf (n1 n2 : Bool) (c1 s1 c2 s2 : Nat) (w : World) (hP : Pow10s w) (hE : ErrIs w) (hs1 : s1 ≤ 19) (hs2 : s2 ≤ 19) (_hc1 : c1 ≤ 9999999999999999999) (hc2 : c2 ≤ 9999999999999999999) (hsg : gsign n1 c1 = gsign n2 c2) (hlt : s2 < s1) (hfit : c2 * 10 ^ (s1 - s2) ≤ 9999999999999999999) :
    Calls Tryz.prog 71 #[gd n1 s1 c1, gd n2 s2 c2] w (CRet w (cmpA (gsign n1 c1) (c1 * 10 ^ (s2 - s1)) (c2 * 10 ^ (s1 - s2)))) := by
  have hsd := fun W => Sign_any n1 s1 c1 W
  have hse := fun W => Sign_any n2 s2 c2 W
  have hbd := gsign_bd n1 c1
  rw [← hsg] at hse
  generalize gsign n1 c1 = sg at *
  clear hsg
  have tw : IntKind.i64.wrap (-sg) = -sg := by rw [IntKind.wrap_i64]; omega
  rw [show s2 - s1 = 0 by omega, Nat.pow_zero, Nat.mul_one]
  have hlsh := fun W (hW : Fresh w W) => flsh_any c2 (s1 - s2) W (hP.fresh hW) hc2 (by omega)
  have t1 : decide ((s2 : Int) < (s1 : Int)) = true := by simp; omega
  obtain ⟨k, hk⟩ : ∃ k, k = s1 - s2 := ⟨_, rfl⟩
  rw [← hk] at hlsh hfit ⊢
  have hkI : (s1 : Int) - (s2 : Int) = (k : Int) := by omega
  have hkw : IntKind.i64.wrap (k : Int) = (k : Int) := wrap_nat k (by omega)
  obtain ⟨b, hb⟩ : ∃ b, b = c2 * 10 ^ k := ⟨_, rfl⟩
  rw [← hb] at hlsh hfit ⊢
  have hm : mulTo b = .tuple #[.int .u64 b, .bool true] := by unfold mulTo; rw [if_pos hfit]
  rw [hm] at hlsh
  clear hm hb hk
  have H_hlsh := Lib.hid hlsh; clear hlsh
  obtain ⟨g, hg⟩ : ∃ g, g = w.heap.size := ⟨_, rfl⟩
  have bx := boxes2 w #[.bool n1, .int .i8 s1, .int .u64 c1] #[.bool n2, .int .i8 s2, .int .u64 c2] 65 65 g hg
  clear hbd
  have H_bx := Lib.hid bx; clear bx
  have H_hP := Lib.hid hP; clear hP
  have H_hE := Lib.hid hE; clear hE
  have H_hsd := Lib.hid hsd; clear hsd
  have H_hse := Lib.hid hse; clear hse
  go_enter Tryz.func71, Tryz.ntmps71
  go_wp2_with (fail)
  generalize hw1 : (w.alloc _).alloc _ = w1
  rw [← hg]
  obtain ⟨b1, b2, hf⟩ := H_bx.out w1 hw1
  have k0 := row_cell b1 0
  have k1 := row_cell b1 1
  have k2 := row_cell b1 2
  simp at k0 k1 k2
  have k3 := row_cell b2 0
  have k4 := row_cell b2 1
  have k5 := row_cell b2 2
  simp at k3 k4 k5
  have H_b1 := Lib.hid b1; clear b1
  have H_b2 := Lib.hid b2; clear b2
  have H_hf := Lib.hid hf; clear hf
  have H_hw1 := Lib.hid hw1; clear hw1
  have H_hg := Lib.hid hg; clear hg
  go_region_held3 (fun (w' : World) => w'.cell? ⟨g, 0, none⟩ = some (.bool n1) ∧ w'.cell? ⟨g, 1, none⟩ = some (.int .i8 s1) ∧ w'.cell? ⟨g, 2, none⟩ = some (.int .u64 c1) ∧ w'.cell? ⟨g + 1, 0, none⟩ = some (.bool n2) ∧ w'.cell? ⟨g + 1, 1, none⟩ = some (.int .i8 s2) ∧ w'.cell? ⟨g + 1, 2, none⟩ = some (.int .u64 c2)) (first | exact ⟨k0, k1, k2, k3, k4, k5⟩ | exact ⟨z10_0, z10_1, z10_2, z10_3, z10_4, z10_5⟩ | exact ⟨z12_0, z12_1, z12_2, z12_3, z12_4, z12_5⟩) (first
    | (go_at_call 78; (with_reducible refine (Scale_any n1 s1 c1 _ hs1).mono ?_); rintro e y9_ ⟨rfl, r⟩; have hy : Fresh w1 y9_ := (by first | exact r | exact r.of_drew | exact r.of_drewN); have z10_0 := cell_fresh k0 hy; have z10_1 := cell_fresh k1 hy; have z10_2 := cell_fresh k2 hy; have z10_3 := cell_fresh k3 hy; have z10_4 := cell_fresh k4 hy; have z10_5 := cell_fresh k5 hy; have fy9_ := hy; have H_fy9_ := Lib.hid fy9_; clear r hy fy9_)
    | (go_at_call 78; (with_reducible refine (Scale_any n2 s2 c2 _ hs2).mono ?_); rintro e y11_ ⟨rfl, r⟩; have hy : Fresh y9_ y11_ := r; have z12_0 := cell_fresh z10_0 hy; have z12_1 := cell_fresh z10_1 hy; have z12_2 := cell_fresh z10_2 hy; have z12_3 := cell_fresh z10_3 hy; have z12_4 := cell_fresh z10_4 hy; have z12_5 := cell_fresh z10_5 hy; have fy11_ := fresh_trans H_fy9_.out hy; have H_fy11_ := Lib.hid fy11_; clear r hy fy11_))
  have Fy11_ := H_fy11_.out
  have H_Fy11_ := Lib.hid Fy11_
  clear Fy11_
  go_wp2_with (fail)
  go_region_held3 (fun (w' : World) => w'.cell? ⟨g, 0, none⟩ = some (.bool n1) ∧ w'.cell? ⟨g, 1, none⟩ = some (.int .i8 s1) ∧ w'.cell? ⟨g, 2, none⟩ = some (.int .u64 c1) ∧ w'.cell? ⟨g + 1, 0, none⟩ = some (.bool n2) ∧ w'.cell? ⟨g + 1, 1, none⟩ = some (.int .i8 s2) ∧ w'.cell? ⟨g + 1, 2, none⟩ = some (.int .u64 c2)) (first | exact ⟨z12_0, z12_1, z12_2, z12_3, z12_4, z12_5⟩ | exact ⟨z14_0, z14_1, z14_2, z14_3, z14_4, z14_5⟩ | exact ⟨z16_0, z16_1, z16_2, z16_3, z16_4, z16_5⟩) (first
    | (go_at_call 78; (with_reducible refine (Scale_any n1 s1 c1 _ hs1).mono ?_); rintro e y13_ ⟨rfl, r⟩; have hy : Fresh y11_ y13_ := (by first | exact r | exact r.of_drew | exact r.of_drewN); have z14_0 := cell_fresh z12_0 hy; have z14_1 := cell_fresh z12_1 hy; have z14_2 := cell_fresh z12_2 hy; have z14_3 := cell_fresh z12_3 hy; have z14_4 := cell_fresh z12_4 hy; have z14_5 := cell_fresh z12_5 hy; have fy13_ := hy; have H_fy13_ := Lib.hid fy13_; clear r hy fy13_)
    | (go_at_call 78; (with_reducible refine (Scale_any n2 s2 c2 _ hs2).mono ?_); rintro e y15_ ⟨rfl, r⟩; have hy : Fresh y13_ y15_ := r; have z16_0 := cell_fresh z14_0 hy; have z16_1 := cell_fresh z14_1 hy; have z16_2 := cell_fresh z14_2 hy; have z16_3 := cell_fresh z14_3 hy; have z16_4 := cell_fresh z14_4 hy; have z16_5 := cell_fresh z14_5 hy; have fy15_ := fresh_trans H_fy13_.out hy; have H_fy15_ := Lib.hid fy15_; clear r hy fy15_)
    | (go_at_call 83; (with_reducible refine (H_hlsh.out _ (fresh_trans (fresh_trans H_hf.out H_Fy11_.out) H_fy15_.out)).mono ?_); rintro e y17_ ⟨rfl, hsame⟩; subst hsame))
  have Fy15_ := fresh_trans H_Fy11_.out H_fy15_.out
  have H_Fy15_ := Lib.hid Fy15_
  clear Fy15_
  rcases Nat.lt_trichotomy c1 b with hcc | hcc | hcc
  · have hv : cmpA sg c1 b = -sg := by unfold cmpA; rw [if_neg (by omega), if_pos (by omega)]
    have hn5 : ¬ b < c1 := by omega
    have hn6 : c1 < b := by omega
    have t5 : decide ((b : Int) < (c1 : Int)) = false := by simp; omega
    have t6 : decide ((c1 : Int) < (b : Int)) = true := by simp; omega
    have H_hv := Lib.hid hv
    clear hv hcc
    go_wp2_with (fail)
    refine (H_hse.out _).mono ?_
    rintro e wz ⟨rfl, r⟩
    have H_rz := Lib.hid r
    clear r
    go_wp2_with (fail)
    go_ret2
    exact ⟨fresh_trans (fresh_trans H_hf.out H_Fy15_.out) H_rz.out, .inl (by rw [H_hv.out]; rfl)⟩
  · have hv : cmpA sg c1 b = 0 := by unfold cmpA; rw [if_neg (by omega), if_neg (by omega)]
    have hn5 : ¬ b < c1 := by omega
    have hn6 : ¬ c1 < b := by omega
    have t5 : decide ((b : Int) < (c1 : Int)) = false := by simp; omega
    have t6 : decide ((c1 : Int) < (b : Int)) = false := by simp; omega
    have H_hv := Lib.hid hv
    clear hv hcc
    go_wp2_with (fail)
    go_ret2
    exact ⟨fresh_trans H_hf.out H_Fy15_.out, .inl (by rw [H_hv.out]; rfl)⟩
  · have hv : cmpA sg c1 b = sg := by unfold cmpA; rw [if_pos (by omega)]
    have hn5 : b < c1 := by omega
    have hn6 : ¬ c1 < b := by omega
    have t5 : decide ((b : Int) < (c1 : Int)) = true := by simp; omega
    have t6 : decide ((c1 : Int) < (b : Int)) = false := by simp; omega
    have H_hv := Lib.hid hv
    clear hv hcc
    go_wp2_with (fail)
    refine (H_hsd.out _).mono ?_
    rintro e wz ⟨rfl, r⟩
    have H_rz := Lib.hid r
    clear r
    go_wp2_with (fail)
    go_ret2
    exact ⟨fresh_trans (fresh_trans H_hf.out H_Fy15_.out) H_rz.out, .inl (by rw [H_hv.out]; rfl)⟩

set_option maxRecDepth 20000 in
set_option maxHeartbeats 4000000 in
theorem cmpFint_gto (n1 n2 : Bool) (c1 s1 c2 s2 : Nat) (w : World) (hP : Pow10s w) (hE : ErrIs w) (hs1 : s1 ≤ 19) (hs2 : s2 ≤ 19) (hc1 : c1 ≤ 9999999999999999999) (hc2 : c2 ≤ 9999999999999999999) (hsg : gsign n1 c1 = gsign n2 c2) (hlt : s2 < s1) (hfit : ¬ c2 * 10 ^ (s1 - s2) ≤ 9999999999999999999) :
    Calls Tryz.prog 71 #[gd n1 s1 c1, gd n2 s2 c2] w (CRet w (cmpA (gsign n1 c1) (c1 * 10 ^ (s2 - s1)) (c2 * 10 ^ (s1 - s2)))) := by
  have hsd := fun W => Sign_any n1 s1 c1 W
  have hse := fun W => Sign_any n2 s2 c2 W
  have hbd := gsign_bd n1 c1
  rw [← hsg] at hse
  generalize gsign n1 c1 = sg at *
  clear hsg
  have tw : IntKind.i64.wrap (-sg) = -sg := by rw [IntKind.wrap_i64]; omega
  rw [show s2 - s1 = 0 by omega, Nat.pow_zero, Nat.mul_one]
  have hlsh := fun W (hW : Fresh w W) => flsh_any c2 (s1 - s2) W (hP.fresh hW) hc2 (by omega)
  have t1 : decide ((s2 : Int) < (s1 : Int)) = true := by simp; omega
  obtain ⟨k, hk⟩ : ∃ k, k = s1 - s2 := ⟨_, rfl⟩
  rw [← hk] at hlsh hfit ⊢
  have hkI : (s1 : Int) - (s2 : Int) = (k : Int) := by omega
  have hkw : IntKind.i64.wrap (k : Int) = (k : Int) := wrap_nat k (by omega)
  obtain ⟨b, hb⟩ : ∃ b, b = c2 * 10 ^ k := ⟨_, rfl⟩
  rw [← hb] at hlsh hfit ⊢
  have hm : mulTo b = .tuple #[.int .u64 0, .bool false] := by unfold mulTo; rw [if_neg hfit]
  rw [hm] at hlsh
  clear hm hb hk
  have H_hlsh := Lib.hid hlsh; clear hlsh
  clear hfit
  obtain ⟨g, hg⟩ : ∃ g, g = w.heap.size := ⟨_, rfl⟩
  have bx := boxes2 w #[.bool n1, .int .i8 s1, .int .u64 c1] #[.bool n2, .int .i8 s2, .int .u64 c2] 65 65 g hg
  clear hbd
  have H_bx := Lib.hid bx; clear bx
  have H_hP := Lib.hid hP; clear hP
  have H_hE := Lib.hid hE; clear hE
  have H_hsd := Lib.hid hsd; clear hsd
  have H_hse := Lib.hid hse; clear hse
  go_enter Tryz.func71, Tryz.ntmps71
  go_wp2_with (fail)
  generalize hw1 : (w.alloc _).alloc _ = w1
  rw [← hg]
  obtain ⟨b1, b2, hf⟩ := H_bx.out w1 hw1
  have k0 := row_cell b1 0
  have k1 := row_cell b1 1
  have k2 := row_cell b1 2
  simp at k0 k1 k2
  have k3 := row_cell b2 0
  have k4 := row_cell b2 1
  have k5 := row_cell b2 2
  simp at k3 k4 k5
  have H_b1 := Lib.hid b1; clear b1
  have H_b2 := Lib.hid b2; clear b2
  have H_hf := Lib.hid hf; clear hf
  have H_hw1 := Lib.hid hw1; clear hw1
  have H_hg := Lib.hid hg; clear hg
  go_region_held3 (fun (w' : World) => w'.cell? ⟨g, 0, none⟩ = some (.bool n1) ∧ w'.cell? ⟨g, 1, none⟩ = some (.int .i8 s1) ∧ w'.cell? ⟨g, 2, none⟩ = some (.int .u64 c1) ∧ w'.cell? ⟨g + 1, 0, none⟩ = some (.bool n2) ∧ w'.cell? ⟨g + 1, 1, none⟩ = some (.int .i8 s2) ∧ w'.cell? ⟨g + 1, 2, none⟩ = some (.int .u64 c2)) (first | exact ⟨k0, k1, k2, k3, k4, k5⟩ | exact ⟨z20_0, z20_1, z20_2, z20_3, z20_4, z20_5⟩ | exact ⟨z22_0, z22_1, z22_2, z22_3, z22_4, z22_5⟩) (first
    | (go_at_call 78; (with_reducible refine (Scale_any n1 s1 c1 _ hs1).mono ?_); rintro e y19_ ⟨rfl, r⟩; have hy : Fresh w1 y19_ := (by first | exact r | exact r.of_drew | exact r.of_drewN); have z20_0 := cell_fresh k0 hy; have z20_1 := cell_fresh k1 hy; have z20_2 := cell_fresh k2 hy; have z20_3 := cell_fresh k3 hy; have z20_4 := cell_fresh k4 hy; have z20_5 := cell_fresh k5 hy; have fy19_ := hy; have H_fy19_ := Lib.hid fy19_; clear r hy fy19_)
    | (go_at_call 78; (with_reducible refine (Scale_any n2 s2 c2 _ hs2).mono ?_); rintro e y21_ ⟨rfl, r⟩; have hy : Fresh y19_ y21_ := r; have z22_0 := cell_fresh z20_0 hy; have z22_1 := cell_fresh z20_1 hy; have z22_2 := cell_fresh z20_2 hy; have z22_3 := cell_fresh z20_3 hy; have z22_4 := cell_fresh z20_4 hy; have z22_5 := cell_fresh z20_5 hy; have fy21_ := fresh_trans H_fy19_.out hy; have H_fy21_ := Lib.hid fy21_; clear r hy fy21_))
  have Fy21_ := H_fy21_.out
  have H_Fy21_ := Lib.hid Fy21_
  clear Fy21_
  go_wp2_with (fail)
  go_region_held3 (fun (w' : World) => w'.cell? ⟨g, 0, none⟩ = some (.bool n1) ∧ w'.cell? ⟨g, 1, none⟩ = some (.int .i8 s1) ∧ w'.cell? ⟨g, 2, none⟩ = some (.int .u64 c1) ∧ w'.cell? ⟨g + 1, 0, none⟩ = some (.bool n2) ∧ w'.cell? ⟨g + 1, 1, none⟩ = some (.int .i8 s2) ∧ w'.cell? ⟨g + 1, 2, none⟩ = some (.int .u64 c2)) (first | exact ⟨z22_0, z22_1, z22_2, z22_3, z22_4, z22_5⟩ | exact ⟨z24_0, z24_1, z24_2, z24_3, z24_4, z24_5⟩ | exact ⟨z26_0, z26_1, z26_2, z26_3, z26_4, z26_5⟩) (first
    | (go_at_call 78; (with_reducible refine (Scale_any n1 s1 c1 _ hs1).mono ?_); rintro e y23_ ⟨rfl, r⟩; have hy : Fresh y21_ y23_ := (by first | exact r | exact r.of_drew | exact r.of_drewN); have z24_0 := cell_fresh z22_0 hy; have z24_1 := cell_fresh z22_1 hy; have z24_2 := cell_fresh z22_2 hy; have z24_3 := cell_fresh z22_3 hy; have z24_4 := cell_fresh z22_4 hy; have z24_5 := cell_fresh z22_5 hy; have fy23_ := hy; have H_fy23_ := Lib.hid fy23_; clear r hy fy23_)
    | (go_at_call 78; (with_reducible refine (Scale_any n2 s2 c2 _ hs2).mono ?_); rintro e y25_ ⟨rfl, r⟩; have hy : Fresh y23_ y25_ := r; have z26_0 := cell_fresh z24_0 hy; have z26_1 := cell_fresh z24_1 hy; have z26_2 := cell_fresh z24_2 hy; have z26_3 := cell_fresh z24_3 hy; have z26_4 := cell_fresh z24_4 hy; have z26_5 := cell_fresh z24_5 hy; have fy25_ := fresh_trans H_fy23_.out hy; have H_fy25_ := Lib.hid fy25_; clear r hy fy25_)
    | (go_at_call 83; (with_reducible refine (H_hlsh.out _ (fresh_trans (fresh_trans H_hf.out H_Fy21_.out) H_fy25_.out)).mono ?_); rintro e y27_ ⟨rfl, hsame⟩; subst hsame))
  have Fy25_ := fresh_trans H_Fy21_.out H_fy25_.out
  have H_Fy25_ := Lib.hid Fy25_
  clear Fy25_
  obtain ⟨ae, hae⟩ := (H_hE.out.fresh (fresh_trans H_hf.out H_Fy25_.out))
  go_wp2_with (fail)
  go_region_held3 (fun (w' : World) => w'.cell? ⟨0, 0, none⟩ = some (.iface 111 (.pointer (some ae)))) (first | exact hae) (fail)
  go_wp2
  go_ret2
  exact ⟨(fresh_trans H_hf.out H_Fy25_.out).drewN 1, .inr ⟨ae, rfl⟩⟩

set_option maxRecDepth 20000 in
set_option maxHeartbeats 4000000 in
theorem cmpFint_ltf (n1 n2 : Bool) (c1 s1 c2 s2 : Nat) (w : World) (hP : Pow10s w) (hE : ErrIs w) (hs1 : s1 ≤ 19) (hs2 : s2 ≤ 19) (hc1 : c1 ≤ 9999999999999999999) (_hc2 : c2 ≤ 9999999999999999999) (hsg : gsign n1 c1 = gsign n2 c2) (hlt : s1 < s2) (hfit : c1 * 10 ^ (s2 - s1) ≤ 9999999999999999999) :
    Calls Tryz.prog 71 #[gd n1 s1 c1, gd n2 s2 c2] w (CRet w (cmpA (gsign n1 c1) (c1 * 10 ^ (s2 - s1)) (c2 * 10 ^ (s1 - s2)))) := by
  have hsd := fun W => Sign_any n1 s1 c1 W
  have hse := fun W => Sign_any n2 s2 c2 W
  have hbd := gsign_bd n1 c1
  rw [← hsg] at hse
  generalize gsign n1 c1 = sg at *
  clear hsg
  have tw : IntKind.i64.wrap (-sg) = -sg := by rw [IntKind.wrap_i64]; omega
  rw [show s1 - s2 = 0 by omega, Nat.pow_zero, Nat.mul_one]
  have hlsh := fun W (hW : Fresh w W) => flsh_any c1 (s2 - s1) W (hP.fresh hW) hc1 (by omega)
  have hnlt : ¬ s2 < s1 := by omega
  have t0 : decide ((s2 : Int) < (s1 : Int)) = false := by simp; omega
  have t1 : decide ((s1 : Int) < (s2 : Int)) = true := by simp; omega
  obtain ⟨k, hk⟩ : ∃ k, k = s2 - s1 := ⟨_, rfl⟩
  rw [← hk] at hlsh hfit ⊢
  have hkI : (s2 : Int) - (s1 : Int) = (k : Int) := by omega
  have hkw : IntKind.i64.wrap (k : Int) = (k : Int) := wrap_nat k (by omega)
  obtain ⟨b, hb⟩ : ∃ b, b = c1 * 10 ^ k := ⟨_, rfl⟩
  rw [← hb] at hlsh hfit ⊢
  have hm : mulTo b = .tuple #[.int .u64 b, .bool true] := by unfold mulTo; rw [if_pos hfit]
  rw [hm] at hlsh
  clear hm hb hk
  have H_hlsh := Lib.hid hlsh; clear hlsh
  obtain ⟨g, hg⟩ : ∃ g, g = w.heap.size := ⟨_, rfl⟩
  have bx := boxes2 w #[.bool n1, .int .i8 s1, .int .u64 c1] #[.bool n2, .int .i8 s2, .int .u64 c2] 65 65 g hg
  clear hbd
  have H_bx := Lib.hid bx; clear bx
  have H_hP := Lib.hid hP; clear hP
  have H_hE := Lib.hid hE; clear hE
  have H_hsd := Lib.hid hsd; clear hsd
  have H_hse := Lib.hid hse; clear hse
  go_enter Tryz.func71, Tryz.ntmps71
  go_wp2_with (fail)
  generalize hw1 : (w.alloc _).alloc _ = w1
  rw [← hg]
  obtain ⟨b1, b2, hf⟩ := H_bx.out w1 hw1
  have k0 := row_cell b1 0
  have k1 := row_cell b1 1
  have k2 := row_cell b1 2
  simp at k0 k1 k2
  have k3 := row_cell b2 0
  have k4 := row_cell b2 1
  have k5 := row_cell b2 2
  simp at k3 k4 k5
  have H_b1 := Lib.hid b1; clear b1
  have H_b2 := Lib.hid b2; clear b2
  have H_hf := Lib.hid hf; clear hf
  have H_hw1 := Lib.hid hw1; clear hw1
  have H_hg := Lib.hid hg; clear hg
  go_region_held3 (fun (w' : World) => w'.cell? ⟨g, 0, none⟩ = some (.bool n1) ∧ w'.cell? ⟨g, 1, none⟩ = some (.int .i8 s1) ∧ w'.cell? ⟨g, 2, none⟩ = some (.int .u64 c1) ∧ w'.cell? ⟨g + 1, 0, none⟩ = some (.bool n2) ∧ w'.cell? ⟨g + 1, 1, none⟩ = some (.int .i8 s2) ∧ w'.cell? ⟨g + 1, 2, none⟩ = some (.int .u64 c2)) (first | exact ⟨k0, k1, k2, k3, k4, k5⟩ | exact ⟨z30_0, z30_1, z30_2, z30_3, z30_4, z30_5⟩ | exact ⟨z32_0, z32_1, z32_2, z32_3, z32_4, z32_5⟩) (first
    | (go_at_call 78; (with_reducible refine (Scale_any n1 s1 c1 _ hs1).mono ?_); rintro e y29_ ⟨rfl, r⟩; have hy : Fresh w1 y29_ := (by first | exact r | exact r.of_drew | exact r.of_drewN); have z30_0 := cell_fresh k0 hy; have z30_1 := cell_fresh k1 hy; have z30_2 := cell_fresh k2 hy; have z30_3 := cell_fresh k3 hy; have z30_4 := cell_fresh k4 hy; have z30_5 := cell_fresh k5 hy; have fy29_ := hy; have H_fy29_ := Lib.hid fy29_; clear r hy fy29_)
    | (go_at_call 78; (with_reducible refine (Scale_any n2 s2 c2 _ hs2).mono ?_); rintro e y31_ ⟨rfl, r⟩; have hy : Fresh y29_ y31_ := r; have z32_0 := cell_fresh z30_0 hy; have z32_1 := cell_fresh z30_1 hy; have z32_2 := cell_fresh z30_2 hy; have z32_3 := cell_fresh z30_3 hy; have z32_4 := cell_fresh z30_4 hy; have z32_5 := cell_fresh z30_5 hy; have fy31_ := fresh_trans H_fy29_.out hy; have H_fy31_ := Lib.hid fy31_; clear r hy fy31_))
  have Fy31_ := H_fy31_.out
  have H_Fy31_ := Lib.hid Fy31_
  clear Fy31_
  go_wp2_with (fail)
  go_region_held3 (fun (w' : World) => w'.cell? ⟨g, 0, none⟩ = some (.bool n1) ∧ w'.cell? ⟨g, 1, none⟩ = some (.int .i8 s1) ∧ w'.cell? ⟨g, 2, none⟩ = some (.int .u64 c1) ∧ w'.cell? ⟨g + 1, 0, none⟩ = some (.bool n2) ∧ w'.cell? ⟨g + 1, 1, none⟩ = some (.int .i8 s2) ∧ w'.cell? ⟨g + 1, 2, none⟩ = some (.int .u64 c2)) (first | exact ⟨z32_0, z32_1, z32_2, z32_3, z32_4, z32_5⟩ | exact ⟨z34_0, z34_1, z34_2, z34_3, z34_4, z34_5⟩ | exact ⟨z36_0, z36_1, z36_2, z36_3, z36_4, z36_5⟩) (first
    | (go_at_call 78; (with_reducible refine (Scale_any n1 s1 c1 _ hs1).mono ?_); rintro e y33_ ⟨rfl, r⟩; have hy : Fresh y31_ y33_ := (by first | exact r | exact r.of_drew | exact r.of_drewN); have z34_0 := cell_fresh z32_0 hy; have z34_1 := cell_fresh z32_1 hy; have z34_2 := cell_fresh z32_2 hy; have z34_3 := cell_fresh z32_3 hy; have z34_4 := cell_fresh z32_4 hy; have z34_5 := cell_fresh z32_5 hy; have fy33_ := hy; have H_fy33_ := Lib.hid fy33_; clear r hy fy33_)
    | (go_at_call 78; (with_reducible refine (Scale_any n2 s2 c2 _ hs2).mono ?_); rintro e y35_ ⟨rfl, r⟩; have hy : Fresh y33_ y35_ := r; have z36_0 := cell_fresh z34_0 hy; have z36_1 := cell_fresh z34_1 hy; have z36_2 := cell_fresh z34_2 hy; have z36_3 := cell_fresh z34_3 hy; have z36_4 := cell_fresh z34_4 hy; have z36_5 := cell_fresh z34_5 hy; have fy35_ := fresh_trans H_fy33_.out hy; have H_fy35_ := Lib.hid fy35_; clear r hy fy35_))
  have Fy35_ := fresh_trans H_Fy31_.out H_fy35_.out
  have H_Fy35_ := Lib.hid Fy35_
  clear Fy35_
  go_wp2_with (fail)
  go_region_held3 (fun (w' : World) => w'.cell? ⟨g, 0, none⟩ = some (.bool n1) ∧ w'.cell? ⟨g, 1, none⟩ = some (.int .i8 s1) ∧ w'.cell? ⟨g, 2, none⟩ = some (.int .u64 c1) ∧ w'.cell? ⟨g + 1, 0, none⟩ = some (.bool n2) ∧ w'.cell? ⟨g + 1, 1, none⟩ = some (.int .i8 s2) ∧ w'.cell? ⟨g + 1, 2, none⟩ = some (.int .u64 c2)) (first | exact ⟨z36_0, z36_1, z36_2, z36_3, z36_4, z36_5⟩ | exact ⟨z38_0, z38_1, z38_2, z38_3, z38_4, z38_5⟩ | exact ⟨z40_0, z40_1, z40_2, z40_3, z40_4, z40_5⟩) (first
    | (go_at_call 78; (with_reducible refine (Scale_any n2 s2 c2 _ hs2).mono ?_); rintro e y37_ ⟨rfl, r⟩; have hy : Fresh y35_ y37_ := (by first | exact r | exact r.of_drew | exact r.of_drewN); have z38_0 := cell_fresh z36_0 hy; have z38_1 := cell_fresh z36_1 hy; have z38_2 := cell_fresh z36_2 hy; have z38_3 := cell_fresh z36_3 hy; have z38_4 := cell_fresh z36_4 hy; have z38_5 := cell_fresh z36_5 hy; have fy37_ := hy; have H_fy37_ := Lib.hid fy37_; clear r hy fy37_)
    | (go_at_call 78; (with_reducible refine (Scale_any n1 s1 c1 _ hs1).mono ?_); rintro e y39_ ⟨rfl, r⟩; have hy : Fresh y37_ y39_ := r; have z40_0 := cell_fresh z38_0 hy; have z40_1 := cell_fresh z38_1 hy; have z40_2 := cell_fresh z38_2 hy; have z40_3 := cell_fresh z38_3 hy; have z40_4 := cell_fresh z38_4 hy; have z40_5 := cell_fresh z38_5 hy; have fy39_ := fresh_trans H_fy37_.out hy; have H_fy39_ := Lib.hid fy39_; clear r hy fy39_)
    | (go_at_call 83; (with_reducible refine (H_hlsh.out _ (fresh_trans (fresh_trans H_hf.out H_Fy35_.out) H_fy39_.out)).mono ?_); rintro e y41_ ⟨rfl, hsame⟩; subst hsame))
  have Fy39_ := fresh_trans H_Fy35_.out H_fy39_.out
  have H_Fy39_ := Lib.hid Fy39_
  clear Fy39_
  rcases Nat.lt_trichotomy b c2 with hcc | hcc | hcc
  · have hv : cmpA sg b c2 = -sg := by unfold cmpA; rw [if_neg (by omega), if_pos (by omega)]
    have hn5 : ¬ c2 < b := by omega
    have hn6 : b < c2 := by omega
    have t5 : decide ((c2 : Int) < (b : Int)) = false := by simp; omega
    have t6 : decide ((b : Int) < (c2 : Int)) = true := by simp; omega
    have H_hv := Lib.hid hv
    clear hv hcc
    go_wp2_with (fail)
    refine (H_hse.out _).mono ?_
    rintro e wz ⟨rfl, r⟩
    have H_rz := Lib.hid r
    clear r
    go_wp2_with (fail)
    go_ret2
    exact ⟨fresh_trans (fresh_trans H_hf.out H_Fy39_.out) H_rz.out, .inl (by rw [H_hv.out]; rfl)⟩
  · have hv : cmpA sg b c2 = 0 := by unfold cmpA; rw [if_neg (by omega), if_neg (by omega)]
    have hn5 : ¬ c2 < b := by omega
    have hn6 : ¬ b < c2 := by omega
    have t5 : decide ((c2 : Int) < (b : Int)) = false := by simp; omega
    have t6 : decide ((b : Int) < (c2 : Int)) = false := by simp; omega
    have H_hv := Lib.hid hv
    clear hv hcc
    go_wp2_with (fail)
    go_ret2
    exact ⟨fresh_trans H_hf.out H_Fy39_.out, .inl (by rw [H_hv.out]; rfl)⟩
  · have hv : cmpA sg b c2 = sg := by unfold cmpA; rw [if_pos (by omega)]
    have hn5 : c2 < b := by omega
    have hn6 : ¬ b < c2 := by omega
    have t5 : decide ((c2 : Int) < (b : Int)) = true := by simp; omega
    have t6 : decide ((b : Int) < (c2 : Int)) = false := by simp; omega
    have H_hv := Lib.hid hv
    clear hv hcc
    go_wp2_with (fail)
    refine (H_hsd.out _).mono ?_
    rintro e wz ⟨rfl, r⟩
    have H_rz := Lib.hid r
    clear r
    go_wp2_with (fail)
    go_ret2
    exact ⟨fresh_trans (fresh_trans H_hf.out H_Fy39_.out) H_rz.out, .inl (by rw [H_hv.out]; rfl)⟩

set_option maxRecDepth 20000 in
set_option maxHeartbeats 4000000 in
theorem cmpFint_lto (n1 n2 : Bool) (c1 s1 c2 s2 : Nat) (w : World) (hP : Pow10s w) (hE : ErrIs w) (hs1 : s1 ≤ 19) (hs2 : s2 ≤ 19) (hc1 : c1 ≤ 9999999999999999999) (hc2 : c2 ≤ 9999999999999999999) (hsg : gsign n1 c1 = gsign n2 c2) (hlt : s1 < s2) (hfit : ¬ c1 * 10 ^ (s2 - s1) ≤ 9999999999999999999) :
    Calls Tryz.prog 71 #[gd n1 s1 c1, gd n2 s2 c2] w (CRet w (cmpA (gsign n1 c1) (c1 * 10 ^ (s2 - s1)) (c2 * 10 ^ (s1 - s2)))) := by
  have hsd := fun W => Sign_any n1 s1 c1 W
  have hse := fun W => Sign_any n2 s2 c2 W
  have hbd := gsign_bd n1 c1
  rw [← hsg] at hse
  generalize gsign n1 c1 = sg at *
  clear hsg
  have tw : IntKind.i64.wrap (-sg) = -sg := by rw [IntKind.wrap_i64]; omega
  rw [show s1 - s2 = 0 by omega, Nat.pow_zero, Nat.mul_one]
  have hlsh := fun W (hW : Fresh w W) => flsh_any c1 (s2 - s1) W (hP.fresh hW) hc1 (by omega)
  have hnlt : ¬ s2 < s1 := by omega
  have t0 : decide ((s2 : Int) < (s1 : Int)) = false := by simp; omega
  have t1 : decide ((s1 : Int) < (s2 : Int)) = true := by simp; omega
  obtain ⟨k, hk⟩ : ∃ k, k = s2 - s1 := ⟨_, rfl⟩
  rw [← hk] at hlsh hfit ⊢
  have hkI : (s2 : Int) - (s1 : Int) = (k : Int) := by omega
  have hkw : IntKind.i64.wrap (k : Int) = (k : Int) := wrap_nat k (by omega)
  obtain ⟨b, hb⟩ : ∃ b, b = c1 * 10 ^ k := ⟨_, rfl⟩
  rw [← hb] at hlsh hfit ⊢
  have hm : mulTo b = .tuple #[.int .u64 0, .bool false] := by unfold mulTo; rw [if_neg hfit]
  rw [hm] at hlsh
  clear hm hb hk
  have H_hlsh := Lib.hid hlsh; clear hlsh
  clear hfit
  obtain ⟨g, hg⟩ : ∃ g, g = w.heap.size := ⟨_, rfl⟩
  have bx := boxes2 w #[.bool n1, .int .i8 s1, .int .u64 c1] #[.bool n2, .int .i8 s2, .int .u64 c2] 65 65 g hg
  clear hbd
  have H_bx := Lib.hid bx; clear bx
  have H_hP := Lib.hid hP; clear hP
  have H_hE := Lib.hid hE; clear hE
  have H_hsd := Lib.hid hsd; clear hsd
  have H_hse := Lib.hid hse; clear hse
  go_enter Tryz.func71, Tryz.ntmps71
  go_wp2_with (fail)
  generalize hw1 : (w.alloc _).alloc _ = w1
  rw [← hg]
  obtain ⟨b1, b2, hf⟩ := H_bx.out w1 hw1
  have k0 := row_cell b1 0
  have k1 := row_cell b1 1
  have k2 := row_cell b1 2
  simp at k0 k1 k2
  have k3 := row_cell b2 0
  have k4 := row_cell b2 1
  have k5 := row_cell b2 2
  simp at k3 k4 k5
  have H_b1 := Lib.hid b1; clear b1
  have H_b2 := Lib.hid b2; clear b2
  have H_hf := Lib.hid hf; clear hf
  have H_hw1 := Lib.hid hw1; clear hw1
  have H_hg := Lib.hid hg; clear hg
  go_region_held3 (fun (w' : World) => w'.cell? ⟨g, 0, none⟩ = some (.bool n1) ∧ w'.cell? ⟨g, 1, none⟩ = some (.int .i8 s1) ∧ w'.cell? ⟨g, 2, none⟩ = some (.int .u64 c1) ∧ w'.cell? ⟨g + 1, 0, none⟩ = some (.bool n2) ∧ w'.cell? ⟨g + 1, 1, none⟩ = some (.int .i8 s2) ∧ w'.cell? ⟨g + 1, 2, none⟩ = some (.int .u64 c2)) (first | exact ⟨k0, k1, k2, k3, k4, k5⟩ | exact ⟨z44_0, z44_1, z44_2, z44_3, z44_4, z44_5⟩ | exact ⟨z46_0, z46_1, z46_2, z46_3, z46_4, z46_5⟩) (first
    | (go_at_call 78; (with_reducible refine (Scale_any n1 s1 c1 _ hs1).mono ?_); rintro e y43_ ⟨rfl, r⟩; have hy : Fresh w1 y43_ := (by first | exact r | exact r.of_drew | exact r.of_drewN); have z44_0 := cell_fresh k0 hy; have z44_1 := cell_fresh k1 hy; have z44_2 := cell_fresh k2 hy; have z44_3 := cell_fresh k3 hy; have z44_4 := cell_fresh k4 hy; have z44_5 := cell_fresh k5 hy; have fy43_ := hy; have H_fy43_ := Lib.hid fy43_; clear r hy fy43_)
    | (go_at_call 78; (with_reducible refine (Scale_any n2 s2 c2 _ hs2).mono ?_); rintro e y45_ ⟨rfl, r⟩; have hy : Fresh y43_ y45_ := r; have z46_0 := cell_fresh z44_0 hy; have z46_1 := cell_fresh z44_1 hy; have z46_2 := cell_fresh z44_2 hy; have z46_3 := cell_fresh z44_3 hy; have z46_4 := cell_fresh z44_4 hy; have z46_5 := cell_fresh z44_5 hy; have fy45_ := fresh_trans H_fy43_.out hy; have H_fy45_ := Lib.hid fy45_; clear r hy fy45_))
  have Fy45_ := H_fy45_.out
  have H_Fy45_ := Lib.hid Fy45_
  clear Fy45_
  go_wp2_with (fail)
  go_region_held3 (fun (w' : World) => w'.cell? ⟨g, 0, none⟩ = some (.bool n1) ∧ w'.cell? ⟨g, 1, none⟩ = some (.int .i8 s1) ∧ w'.cell? ⟨g, 2, none⟩ = some (.int .u64 c1) ∧ w'.cell? ⟨g + 1, 0, none⟩ = some (.bool n2) ∧ w'.cell? ⟨g + 1, 1, none⟩ = some (.int .i8 s2) ∧ w'.cell? ⟨g + 1, 2, none⟩ = some (.int .u64 c2)) (first | exact ⟨z46_0, z46_1, z46_2, z46_3, z46_4, z46_5⟩ | exact ⟨z48_0, z48_1, z48_2, z48_3, z48_4, z48_5⟩ | exact ⟨z50_0, z50_1, z50_2, z50_3, z50_4, z50_5⟩) (first
    | (go_at_call 78; (with_reducible refine (Scale_any n1 s1 c1 _ hs1).mono ?_); rintro e y47_ ⟨rfl, r⟩; have hy : Fresh y45_ y47_ := (by first | exact r | exact r.of_drew | exact r.of_drewN); have z48_0 := cell_fresh z46_0 hy; have z48_1 := cell_fresh z46_1 hy; have z48_2 := cell_fresh z46_2 hy; have z48_3 := cell_fresh z46_3 hy; have z48_4 := cell_fresh z46_4 hy; have z48_5 := cell_fresh z46_5 hy; have fy47_ := hy; have H_fy47_ := Lib.hid fy47_; clear r hy fy47_)
    | (go_at_call 78; (with_reducible refine (Scale_any n2 s2 c2 _ hs2).mono ?_); rintro e y49_ ⟨rfl, r⟩; have hy : Fresh y47_ y49_ := r; have z50_0 := cell_fresh z48_0 hy; have z50_1 := cell_fresh z48_1 hy; have z50_2 := cell_fresh z48_2 hy; have z50_3 := cell_fresh z48_3 hy; have z50_4 := cell_fresh z48_4 hy; have z50_5 := cell_fresh z48_5 hy; have fy49_ := fresh_trans H_fy47_.out hy; have H_fy49_ := Lib.hid fy49_; clear r hy fy49_))
  have Fy49_ := fresh_trans H_Fy45_.out H_fy49_.out
  have H_Fy49_ := Lib.hid Fy49_
  clear Fy49_
  go_wp2_with (fail)
  go_region_held3 (fun (w' : World) => w'.cell? ⟨g, 0, none⟩ = some (.bool n1) ∧ w'.cell? ⟨g, 1, none⟩ = some (.int .i8 s1) ∧ w'.cell? ⟨g, 2, none⟩ = some (.int .u64 c1) ∧ w'.cell? ⟨g + 1, 0, none⟩ = some (.bool n2) ∧ w'.cell? ⟨g + 1, 1, none⟩ = some (.int .i8 s2) ∧ w'.cell? ⟨g + 1, 2, none⟩ = some (.int .u64 c2)) (first | exact ⟨z50_0, z50_1, z50_2, z50_3, z50_4, z50_5⟩ | exact ⟨z52_0, z52_1, z52_2, z52_3, z52_4, z52_5⟩ | exact ⟨z54_0, z54_1, z54_2, z54_3, z54_4, z54_5⟩) (first
    | (go_at_call 78; (with_reducible refine (Scale_any n2 s2 c2 _ hs2).mono ?_); rintro e y51_ ⟨rfl, r⟩; have hy : Fresh y49_ y51_ := (by first | exact r | exact r.of_drew | exact r.of_drewN); have z52_0 := cell_fresh z50_0 hy; have z52_1 := cell_fresh z50_1 hy; have z52_2 := cell_fresh z50_2 hy; have z52_3 := cell_fresh z50_3 hy; have z52_4 := cell_fresh z50_4 hy; have z52_5 := cell_fresh z50_5 hy; have fy51_ := hy; have H_fy51_ := Lib.hid fy51_; clear r hy fy51_)
    | (go_at_call 78; (with_reducible refine (Scale_any n1 s1 c1 _ hs1).mono ?_); rintro e y53_ ⟨rfl, r⟩; have hy : Fresh y51_ y53_ := r; have z54_0 := cell_fresh z52_0 hy; have z54_1 := cell_fresh z52_1 hy; have z54_2 := cell_fresh z52_2 hy; have z54_3 := cell_fresh z52_3 hy; have z54_4 := cell_fresh z52_4 hy; have z54_5 := cell_fresh z52_5 hy; have fy53_ := fresh_trans H_fy51_.out hy; have H_fy53_ := Lib.hid fy53_; clear r hy fy53_)
    | (go_at_call 83; (with_reducible refine (H_hlsh.out _ (fresh_trans (fresh_trans H_hf.out H_Fy49_.out) H_fy53_.out)).mono ?_); rintro e y55_ ⟨rfl, hsame⟩; subst hsame))
  have Fy53_ := fresh_trans H_Fy49_.out H_fy53_.out
  have H_Fy53_ := Lib.hid Fy53_
  clear Fy53_
  obtain ⟨ae, hae⟩ := (H_hE.out.fresh (fresh_trans H_hf.out H_Fy53_.out))
  go_wp2_with (fail)
  go_region_held3 (fun (w' : World) => w'.cell? ⟨0, 0, none⟩ = some (.iface 111 (.pointer (some ae)))) (first | exact hae) (fail)
  go_wp2
  go_ret2
  exact ⟨(fresh_trans H_hf.out H_Fy53_.out).drewN 1, .inr ⟨ae, rfl⟩⟩

theorem cmpFint_any (n1 n2 : Bool) (c1 s1 c2 s2 : Nat) (w : World) (hP : Pow10s w) (hE : ErrIs w) (hs1 : s1 ≤ 19) (hs2 : s2 ≤ 19) (hc1 : c1 ≤ 9999999999999999999) (hc2 : c2 ≤ 9999999999999999999) (hsg : gsign n1 c1 = gsign n2 c2) :
    Calls Tryz.prog 71 #[gd n1 s1 c1, gd n2 s2 c2] w (CRet w (cmpA (gsign n1 c1) (c1 * 10 ^ (s2 - s1)) (c2 * 10 ^ (s1 - s2)))) := by
  rcases Nat.lt_trichotomy s1 s2 with h | h | h
  · by_cases hfit : c1 * 10 ^ (s2 - s1) ≤ 9999999999999999999
    · exact cmpFint_ltf n1 n2 c1 s1 c2 s2 w hP hE hs1 hs2 hc1 hc2 hsg h hfit
    · exact cmpFint_lto n1 n2 c1 s1 c2 s2 w hP hE hs1 hs2 hc1 hc2 hsg h hfit
  · exact cmpFint_eq n1 n2 c1 s1 c2 s2 w hP hE hs1 hs2 hc1 hc2 hsg h
  · by_cases hfit : c2 * 10 ^ (s1 - s2) ≤ 9999999999999999999
    · exact cmpFint_gtf n1 n2 c1 s1 c2 s2 w hP hE hs1 hs2 hc1 hc2 hsg h hfit
    · exact cmpFint_gto n1 n2 c1 s1 c2 s2 w hP hE hs1 hs2 hc1 hc2 hsg h hfit

end Go.Proofs.YtecadiflbfpofaaGreatDoor

/- govalues' decimals compared by whole numbers of any length: cmpBint. -/
namespace Go.Proofs.YtecadiflbfpofaaGreatDoor
open Go.RowKit

theorem cmpN_cases (a b : Nat) : (cmpN a b = 1 ∧ b < a) ∨ (cmpN a b = -1 ∧ a < b) ∨ (cmpN a b = 0 ∧ a = b) := by
  rcases Nat.lt_trichotomy a b with h | h | h
  · exact .inr (.inl ⟨cmpN_lt h, h⟩)
  · subst h; exact .inr (.inr ⟨cmpN_eq a, rfl⟩)
  · exact .inl ⟨cmpN_gt h, h⟩

theorem ten_wpow {c k : Nat} (hc : c ≤ 9999999999999999999) (hk : k ≤ 19) : c * 10 ^ k < wpow 39 := by
  apply wpow_big
  have h1 : 10 ^ k ≤ 10 ^ 19 := Nat.pow_le_pow_right (by omega) hk
  have h2 : c * 10 ^ k ≤ 9999999999999999999 * 10 ^ 19 := Nat.mul_le_mul hc h1
  omega

/-- the number in block g stays where the one in block h is set -/
theorem BSet.other {w w' : World} {g h m n n' : Nat} {v u : Value} (hs : BSet w h u n' w') (hg : BI w g v m) (hh : BI w h u n) (hne : g ≠ h) (hsep : ∀ k, v.ownBlock = some k → u.ownBlock ≠ some k) : BI w' g v m := by
  obtain ⟨_, _, hk, _⟩ := hs
  exact hg.keep hk (by rintro (e | e)
                       · exact hne e
                       · exact hg.ne_own hh e rfl) (fun k hk => by rintro (e | e)
                                                                   · exact hh.ne_own hg hk e.symm
                                                                   · exact hsep k hk e)

set_option maxRecDepth 20000 in
set_option maxHeartbeats 8000000 in
theorem cmpBint_eq (n1 n2 : Bool) (c1 s1 c2 s2 : Nat) (w : World) (hG : Glob w) (hP : Pow10s w) (hs1 : s1 ≤ 19) (hs2 : s2 ≤ 19) (hc1 : c1 ≤ 9999999999999999999) (hc2 : c2 ≤ 9999999999999999999) (hsg : gsign n1 c1 = gsign n2 c2) (hlt : s1 = s2) :
    Calls Tryz.prog 72 #[gd n1 s1 c1, gd n2 s2 c2] w (VRet w (.int .i64 (cmpA (gsign n1 c1) (c1 * 10 ^ (s2 - s1)) (c2 * 10 ^ (s1 - s2))))) := by
  have hsd := fun W => Sign_any n1 s1 c1 W
  have hse := fun W => Sign_any n2 s2 c2 W
  have hbd := gsign_bd n1 c1
  rw [← hsg] at hse
  generalize gsign n1 c1 = sg at *
  clear hsg
  have tw : IntKind.i64.wrap (-sg) = -sg := by rw [IntKind.wrap_i64]; omega
  have hGs := hG.size
  subst hlt
  rw [Nat.sub_self, Nat.pow_zero, Nat.mul_one, Nat.mul_one]
  have t1 : decide ((s1 : Int) < (s1 : Int)) = false := by simp
  obtain ⟨g, hg⟩ : ∃ g, g = w.heap.size := ⟨_, rfl⟩
  have bx := boxes2 w #[.bool n1, .int .i8 s1, .int .u64 c1] #[.bool n2, .int .i8 s1, .int .u64 c2] 65 65 g hg
  clear hbd
  have H_bx := Lib.hid bx; clear bx
  have H_hP := Lib.hid hP; clear hP
  have H_hG := Lib.hid hG; clear hG
  have H_hGs := Lib.hid hGs; clear hGs
  have H_hsd := Lib.hid hsd; clear hsd
  have H_hse := Lib.hid hse; clear hse
  go_enter_defers Tryz.func72, Tryz.ntmps72
  go_wp2_with (fail)
  generalize hw1 : (w.alloc _).alloc _ = w1
  rw [← hg]
  obtain ⟨b1, b2, hf⟩ := H_bx.out w1 hw1
  have k0 := row_cell b1 0
  have k1 := row_cell b1 1
  have k2 := row_cell b1 2
  simp at k0 k1 k2
  have k3 := row_cell b2 0
  have k4 := row_cell b2 1
  have k5 := row_cell b2 2
  simp at k3 k4 k5
  have hGs1 : NG ≤ w1.heap.size := Nat.le_trans H_hGs.out hf.size
  obtain ⟨p, hp⟩ : ∃ p, p = w1.heap.size := ⟨_, rfl⟩
  have hgb := getBint_any w1 hGs1
  rw [← hp] at hgb
  have H_b1 := Lib.hid b1; clear b1
  have H_b2 := Lib.hid b2; clear b2
  have H_hf := Lib.hid hf; clear hf
  have H_hw1 := Lib.hid hw1; clear hw1
  have H_hg := Lib.hid hg; clear hg
  have H_hGs1 := Lib.hid hGs1; clear hGs1
  have H_hp := Lib.hid hp; clear hp
  refine hgb.mono ?_
  clear hgb
  rintro e w2 ⟨rfl, p2, f2, z2⟩
  have m0 := cell_fresh k0 f2
  have m1 := cell_fresh k1 f2
  have m2 := cell_fresh k2 f2
  have m3 := cell_fresh k3 f2
  have m4 := cell_fresh k4 f2
  have m5 := cell_fresh k5 f2
  clear k0 k1 k2 k3 k4 k5
  obtain ⟨q, hq⟩ : ∃ q, q = w2.heap.size := ⟨_, rfl⟩
  have hgb := getBint_any w2 (Nat.le_trans H_hGs1.out f2.size)
  rw [← hq] at hgb
  have hpq : p ≠ q := by have := p2.lt; omega
  have hq1 : w1.heap.size ≤ q := by have := f2.size; omega
  have H_p2 := Lib.hid p2; clear p2
  have H_f2 := Lib.hid f2; clear f2
  have H_z2 := Lib.hid z2; clear z2
  have H_hq := Lib.hid hq; clear hq
  have H_hq1 := Lib.hid hq1; clear hq1
  go_wp2_with (fail)
  refine hgb.mono ?_
  clear hgb
  rintro e w3 ⟨rfl, q3, f3, z3⟩
  have k0 := cell_fresh m0 f3
  have k1 := cell_fresh m1 f3
  have k2 := cell_fresh m2 f3
  have k3 := cell_fresh m3 f3
  have k4 := cell_fresh m4 f3
  have k5 := cell_fresh m5 f3
  clear m0 m1 m2 m3 m4 m5
  have p3 := H_p2.out.fresh f3
  have g3 := fresh_trans H_f2.out f3
  have H_p3 := Lib.hid p3; clear p3
  have H_q3 := Lib.hid q3; clear q3
  have H_f3 := Lib.hid f3; clear f3
  have H_z3 := Lib.hid z3; clear z3
  have H_g3 := Lib.hid g3; clear g3
  go_wp2_with (fail)
  refine (setFint_any p _ 0 c1 _ (by omega) H_p3.out).mono ?_
  rintro e w4 ⟨rfl, hb⟩
  have q4 := hb.other H_q3.out H_p3.out (fun e => hpq e.symm) (fun k h => by simp [Value.ownBlock] at h)
  obtain ⟨vp, p4, op4, g4⟩ := hb.fresh_of H_g3.out (by have := H_hp.out; omega) (fun k h => by simp [Value.ownBlock] at h)
  have lp4 : ∀ k, vp.ownBlock = some k → k < w4.heap.size := fun k h => p4.own_lt h
  clear hb
  clear k0 k1 k2 k3 k4 k5
  have d1 := row_fresh H_b1.out g4
  have d2 := row_fresh H_b2.out g4
  have k0 := row_cell d1 0
  have k1 := row_cell d1 1
  have k2 := row_cell d1 2
  simp at k0 k1 k2
  have k3 := row_cell d2 0
  have k4 := row_cell d2 1
  have k5 := row_cell d2 2
  simp at k3 k4 k5
  have H_q4 := Lib.hid q4; clear q4
  have H_p4 := Lib.hid p4; clear p4
  have H_op4 := Lib.hid op4; clear op4
  have H_lp4 := Lib.hid lp4; clear lp4
  have H_g4 := Lib.hid g4; clear g4
  have H_d1 := Lib.hid d1; clear d1
  have H_d2 := Lib.hid d2; clear d2
  go_wp2_with (fail)
  refine (setFint_any q _ 0 c2 _ (by omega) H_q4.out).mono ?_
  rintro e w5 ⟨rfl, hb⟩
  have p5 := hb.other H_p4.out H_q4.out hpq (fun k _ h => by simp [Value.ownBlock] at h)
  have oq5 : ∃ vq, BI w5 q vq c2 ∧ (∀ k, vq.ownBlock = some k → w4.heap.size ≤ k) := by
    obtain ⟨vq, h1, _, h3⟩ := hb
    exact ⟨vq, h1, fun k hk => (h3 k hk).resolve_left (fun h => by simp [Value.ownBlock] at h)⟩
  obtain ⟨_, _, _, g5⟩ := hb.fresh_of H_g4.out H_hq1.out (fun k h => by simp [Value.ownBlock] at h)
  obtain ⟨vq, q5, oq5⟩ := oq5
  have sep : ∀ k, vp.ownBlock = some k → vq.ownBlock ≠ some k := fun k h e => by have := H_lp4.out k h; have := oq5 k e; omega
  have oq1 : ∀ k, vq.ownBlock = some k → w1.heap.size ≤ k := fun k h => Nat.le_trans H_g4.out.size (oq5 k h)
  clear hb oq5 k0 k1 k2 k3 k4 k5
  have d1 := row_fresh H_b1.out g5
  have d2 := row_fresh H_b2.out g5
  have k0 := row_cell d1 0
  have k1 := row_cell d1 1
  have k2 := row_cell d1 2
  simp at k0 k1 k2
  have k3 := row_cell d2 0
  have k4 := row_cell d2 1
  have k5 := row_cell d2 2
  simp at k3 k4 k5
  clear H_d1 H_d2
  have H_p5 := Lib.hid p5; clear p5
  have H_q5 := Lib.hid q5; clear q5
  have H_sep := Lib.hid sep; clear sep
  have H_oq1 := Lib.hid oq1; clear oq1
  have H_g5 := Lib.hid g5; clear g5
  have H_d1 := Lib.hid d1; clear d1
  have H_d2 := Lib.hid d2; clear d2
  go_wp2_with (fail)
  go_region_held3 (fun (w' : World) => w'.cell? ⟨g, 0, none⟩ = some (.bool n1) ∧ w'.cell? ⟨g, 1, none⟩ = some (.int .i8 s1) ∧ w'.cell? ⟨g, 2, none⟩ = some (.int .u64 c1) ∧ w'.cell? ⟨g + 1, 0, none⟩ = some (.bool n2) ∧ w'.cell? ⟨g + 1, 1, none⟩ = some (.int .i8 s1) ∧ w'.cell? ⟨g + 1, 2, none⟩ = some (.int .u64 c2)) (first | exact ⟨k0, k1, k2, k3, k4, k5⟩ | exact ⟨z2_0, z2_1, z2_2, z2_3, z2_4, z2_5⟩ | exact ⟨z4_0, z4_1, z4_2, z4_3, z4_4, z4_5⟩) (first
    | (go_at_call 78; (with_reducible refine (Scale_any n1 s1 c1 _ hs1).mono ?_); rintro e y1_ ⟨rfl, r⟩; have hy : Fresh w5 y1_ := (by first | exact r | exact r.of_drew | exact r.of_drewN); have z2_0 := cell_fresh k0 hy; have z2_1 := cell_fresh k1 hy; have z2_2 := cell_fresh k2 hy; have z2_3 := cell_fresh k3 hy; have z2_4 := cell_fresh k4 hy; have z2_5 := cell_fresh k5 hy; have fy1_ := hy; have H_fy1_ := Lib.hid fy1_; clear r hy fy1_)
    | (go_at_call 78; (with_reducible refine (Scale_any n2 s1 c2 _ hs2).mono ?_); rintro e y3_ ⟨rfl, r⟩; have hy : Fresh y1_ y3_ := r; have z4_0 := cell_fresh z2_0 hy; have z4_1 := cell_fresh z2_1 hy; have z4_2 := cell_fresh z2_2 hy; have z4_3 := cell_fresh z2_3 hy; have z4_4 := cell_fresh z2_4 hy; have z4_5 := cell_fresh z2_5 hy; have fy3_ := fresh_trans H_fy1_.out hy; have H_fy3_ := Lib.hid fy3_; clear r hy fy3_))
  have Fy3_ := H_fy3_.out
  have H_Fy3_ := Lib.hid Fy3_
  clear Fy3_
  go_wp2_with (fail)
  go_region_held3 (fun (w' : World) => w'.cell? ⟨g, 0, none⟩ = some (.bool n1) ∧ w'.cell? ⟨g, 1, none⟩ = some (.int .i8 s1) ∧ w'.cell? ⟨g, 2, none⟩ = some (.int .u64 c1) ∧ w'.cell? ⟨g + 1, 0, none⟩ = some (.bool n2) ∧ w'.cell? ⟨g + 1, 1, none⟩ = some (.int .i8 s1) ∧ w'.cell? ⟨g + 1, 2, none⟩ = some (.int .u64 c2)) (first | exact ⟨z4_0, z4_1, z4_2, z4_3, z4_4, z4_5⟩ | exact ⟨z6_0, z6_1, z6_2, z6_3, z6_4, z6_5⟩ | exact ⟨z8_0, z8_1, z8_2, z8_3, z8_4, z8_5⟩) (first
    | (go_at_call 78; (with_reducible refine (Scale_any n1 s1 c1 _ hs1).mono ?_); rintro e y5_ ⟨rfl, r⟩; have hy : Fresh y3_ y5_ := (by first | exact r | exact r.of_drew | exact r.of_drewN); have z6_0 := cell_fresh z4_0 hy; have z6_1 := cell_fresh z4_1 hy; have z6_2 := cell_fresh z4_2 hy; have z6_3 := cell_fresh z4_3 hy; have z6_4 := cell_fresh z4_4 hy; have z6_5 := cell_fresh z4_5 hy; have fy5_ := hy; have H_fy5_ := Lib.hid fy5_; clear r hy fy5_)
    | (go_at_call 78; (with_reducible refine (Scale_any n2 s1 c2 _ hs2).mono ?_); rintro e y7_ ⟨rfl, r⟩; have hy : Fresh y5_ y7_ := r; have z8_0 := cell_fresh z6_0 hy; have z8_1 := cell_fresh z6_1 hy; have z8_2 := cell_fresh z6_2 hy; have z8_3 := cell_fresh z6_3 hy; have z8_4 := cell_fresh z6_4 hy; have z8_5 := cell_fresh z6_5 hy; have fy7_ := fresh_trans H_fy5_.out hy; have H_fy7_ := Lib.hid fy7_; clear r hy fy7_))
  have Fy7_ := fresh_trans H_Fy3_.out H_fy7_.out
  have H_Fy7_ := Lib.hid Fy7_
  clear Fy7_
  have pz := H_p5.out.fresh H_Fy7_.out
  have qz := H_q5.out.fresh H_Fy7_.out
  have gz := fresh_trans H_g5.out H_Fy7_.out
  have H_pz := Lib.hid pz; clear pz
  have H_qz := Lib.hid qz; clear qz
  have H_gz := Lib.hid gz; clear gz
  go_wp2_with (fail)
  refine (bcmp_any p q _ _ c1 c2 _ (wpow_big (by omega)) (wpow_big (by omega)) hpq H_pz.out H_qz.out).mono ?_
  rintro e w7 ⟨rfl, nq, rfl⟩
  have gq := Keep.drewN H_gz.out nq
  generalize hwq : World.drewN _ nq = wq at *
  have d1 := row_fresh H_b1.out gq
  have d2 := row_fresh H_b2.out gq
  have v0 := row_cell d1 0
  have v1 := row_cell d1 1
  have v2 := row_cell d1 2
  have v3 := row_cell d2 0
  have v4 := row_cell d2 1
  have v5 := row_cell d2 2
  simp at v0 v1 v2 v3 v4 v5
  have H_gq := Lib.hid gq; clear gq
  have H_d1 := Lib.hid d1; clear d1
  have H_d2 := Lib.hid d2; clear d2
  have H_hwq := Lib.hid hwq; clear hwq
  rcases cmpN_cases c1 c2 with ⟨hr, hcc⟩ | ⟨hr, hcc⟩ | ⟨hr, hcc⟩
  · rw [hr]
    have hv : cmpA sg c1 c2 = sg := by unfold cmpA; rw [if_pos hcc]
    have H_hv := Lib.hid hv
    clear hv hr hcc
    go_wp2_with (fail)
    refine (H_hsd.out _).mono ?_
    rintro e wz ⟨rfl, r⟩
    have H_rz := Lib.hid r
    clear r
    go_wp2_with (fail)
    refine leaves_cons (f := 85) (args := #[.pointer (some ⟨q, 0, none⟩)]) (by simp) (by simp [go_sem]) ?_
    refine (putBint_idle _ _).mono ?_
    rintro e u' w'' ⟨rfl, rfl, rfl⟩
    refine leaves_cons (f := 85) (args := #[.pointer (some ⟨p, 0, none⟩)]) (by simp [settle]) (by simp [go_sem]) ?_
    refine (putBint_idle _ _).mono ?_
    rintro e u' w'' ⟨rfl, rfl, rfl⟩
    refine ⟨.int .i64 sg, by simp [results, Tryz.results72], by rw [H_hv.out], fresh_trans (fresh_trans H_hf.out H_gq.out) H_rz.out⟩
  · rw [hr]
    have hv : cmpA sg c1 c2 = -sg := by unfold cmpA; rw [if_neg (by omega), if_pos hcc]
    have H_hv := Lib.hid hv
    clear hv hr hcc
    go_wp2_with (fail)
    refine (H_hse.out _).mono ?_
    rintro e wz ⟨rfl, r⟩
    have H_rz := Lib.hid r
    clear r
    go_wp2_with (fail)
    refine leaves_cons (f := 85) (args := #[.pointer (some ⟨q, 0, none⟩)]) (by simp) (by simp [go_sem]) ?_
    refine (putBint_idle _ _).mono ?_
    rintro e u' w'' ⟨rfl, rfl, rfl⟩
    refine leaves_cons (f := 85) (args := #[.pointer (some ⟨p, 0, none⟩)]) (by simp [settle]) (by simp [go_sem]) ?_
    refine (putBint_idle _ _).mono ?_
    rintro e u' w'' ⟨rfl, rfl, rfl⟩
    refine ⟨.int .i64 (-sg), by simp [results, Tryz.results72], by rw [H_hv.out], fresh_trans (fresh_trans H_hf.out H_gq.out) H_rz.out⟩
  · rw [hr]
    have hv : cmpA sg c1 c2 = 0 := by unfold cmpA; rw [if_neg (by omega), if_neg (by omega)]
    have H_hv := Lib.hid hv
    clear hv hr hcc
    go_wp2_with (fail)
    refine leaves_cons (f := 85) (args := #[.pointer (some ⟨q, 0, none⟩)]) (by simp) (by simp [go_sem]) ?_
    refine (putBint_idle _ _).mono ?_
    rintro e u' w'' ⟨rfl, rfl, rfl⟩
    refine leaves_cons (f := 85) (args := #[.pointer (some ⟨p, 0, none⟩)]) (by simp [settle]) (by simp [go_sem]) ?_
    refine (putBint_idle _ _).mono ?_
    rintro e u' w'' ⟨rfl, rfl, rfl⟩
    refine ⟨.int .i64 0, by simp [results, Tryz.results72], by rw [H_hv.out], fresh_trans H_hf.out H_gq.out⟩

set_option maxRecDepth 20000 in
set_option maxHeartbeats 8000000 in
theorem cmpBint_gt (n1 n2 : Bool) (c1 s1 c2 s2 : Nat) (w : World) (hG : Glob w) (hP : Pow10s w) (hs1 : s1 ≤ 19) (hs2 : s2 ≤ 19) (hc1 : c1 ≤ 9999999999999999999) (hc2 : c2 ≤ 9999999999999999999) (hsg : gsign n1 c1 = gsign n2 c2) (hlt : s2 < s1) :
    Calls Tryz.prog 72 #[gd n1 s1 c1, gd n2 s2 c2] w (VRet w (.int .i64 (cmpA (gsign n1 c1) (c1 * 10 ^ (s2 - s1)) (c2 * 10 ^ (s1 - s2))))) := by
  have hsd := fun W => Sign_any n1 s1 c1 W
  have hse := fun W => Sign_any n2 s2 c2 W
  have hbd := gsign_bd n1 c1
  rw [← hsg] at hse
  generalize gsign n1 c1 = sg at *
  clear hsg
  have tw : IntKind.i64.wrap (-sg) = -sg := by rw [IntKind.wrap_i64]; omega
  have hGs := hG.size
  rw [show s2 - s1 = 0 by omega, Nat.pow_zero, Nat.mul_one]
  have t1 : decide ((s2 : Int) < (s1 : Int)) = true := by simp; omega
  obtain ⟨k, hk⟩ : ∃ k, k = s1 - s2 := ⟨_, rfl⟩
  rw [← hk]
  have hk19 : k ≤ 19 := by omega
  have hkI : (s1 : Int) - (s2 : Int) = (k : Int) := by omega
  have hkw : IntKind.i64.wrap (k : Int) = (k : Int) := wrap_nat k (by omega)
  clear hk
  obtain ⟨g, hg⟩ : ∃ g, g = w.heap.size := ⟨_, rfl⟩
  have bx := boxes2 w #[.bool n1, .int .i8 s1, .int .u64 c1] #[.bool n2, .int .i8 s2, .int .u64 c2] 65 65 g hg
  clear hbd
  have H_bx := Lib.hid bx; clear bx
  have H_hP := Lib.hid hP; clear hP
  have H_hG := Lib.hid hG; clear hG
  have H_hGs := Lib.hid hGs; clear hGs
  have H_hsd := Lib.hid hsd; clear hsd
  have H_hse := Lib.hid hse; clear hse
  go_enter_defers Tryz.func72, Tryz.ntmps72
  go_wp2_with (fail)
  generalize hw1 : (w.alloc _).alloc _ = w1
  rw [← hg]
  obtain ⟨b1, b2, hf⟩ := H_bx.out w1 hw1
  have k0 := row_cell b1 0
  have k1 := row_cell b1 1
  have k2 := row_cell b1 2
  simp at k0 k1 k2
  have k3 := row_cell b2 0
  have k4 := row_cell b2 1
  have k5 := row_cell b2 2
  simp at k3 k4 k5
  have hGs1 : NG ≤ w1.heap.size := Nat.le_trans H_hGs.out hf.size
  obtain ⟨p, hp⟩ : ∃ p, p = w1.heap.size := ⟨_, rfl⟩
  have hgb := getBint_any w1 hGs1
  rw [← hp] at hgb
  have H_b1 := Lib.hid b1; clear b1
  have H_b2 := Lib.hid b2; clear b2
  have H_hf := Lib.hid hf; clear hf
  have H_hw1 := Lib.hid hw1; clear hw1
  have H_hg := Lib.hid hg; clear hg
  have H_hGs1 := Lib.hid hGs1; clear hGs1
  have H_hp := Lib.hid hp; clear hp
  refine hgb.mono ?_
  clear hgb
  rintro e w2 ⟨rfl, p2, f2, z2⟩
  have m0 := cell_fresh k0 f2
  have m1 := cell_fresh k1 f2
  have m2 := cell_fresh k2 f2
  have m3 := cell_fresh k3 f2
  have m4 := cell_fresh k4 f2
  have m5 := cell_fresh k5 f2
  clear k0 k1 k2 k3 k4 k5
  obtain ⟨q, hq⟩ : ∃ q, q = w2.heap.size := ⟨_, rfl⟩
  have hgb := getBint_any w2 (Nat.le_trans H_hGs1.out f2.size)
  rw [← hq] at hgb
  have hpq : p ≠ q := by have := p2.lt; omega
  have hq1 : w1.heap.size ≤ q := by have := f2.size; omega
  have H_p2 := Lib.hid p2; clear p2
  have H_f2 := Lib.hid f2; clear f2
  have H_z2 := Lib.hid z2; clear z2
  have H_hq := Lib.hid hq; clear hq
  have H_hq1 := Lib.hid hq1; clear hq1
  go_wp2_with (fail)
  refine hgb.mono ?_
  clear hgb
  rintro e w3 ⟨rfl, q3, f3, z3⟩
  have k0 := cell_fresh m0 f3
  have k1 := cell_fresh m1 f3
  have k2 := cell_fresh m2 f3
  have k3 := cell_fresh m3 f3
  have k4 := cell_fresh m4 f3
  have k5 := cell_fresh m5 f3
  clear m0 m1 m2 m3 m4 m5
  have p3 := H_p2.out.fresh f3
  have g3 := fresh_trans H_f2.out f3
  have H_p3 := Lib.hid p3; clear p3
  have H_q3 := Lib.hid q3; clear q3
  have H_f3 := Lib.hid f3; clear f3
  have H_z3 := Lib.hid z3; clear z3
  have H_g3 := Lib.hid g3; clear g3
  go_wp2_with (fail)
  refine (setFint_any p _ 0 c1 _ (by omega) H_p3.out).mono ?_
  rintro e w4 ⟨rfl, hb⟩
  have q4 := hb.other H_q3.out H_p3.out (fun e => hpq e.symm) (fun k h => by simp [Value.ownBlock] at h)
  obtain ⟨vp, p4, op4, g4⟩ := hb.fresh_of H_g3.out (by have := H_hp.out; omega) (fun k h => by simp [Value.ownBlock] at h)
  have lp4 : ∀ k, vp.ownBlock = some k → k < w4.heap.size := fun k h => p4.own_lt h
  clear hb
  clear k0 k1 k2 k3 k4 k5
  have d1 := row_fresh H_b1.out g4
  have d2 := row_fresh H_b2.out g4
  have k0 := row_cell d1 0
  have k1 := row_cell d1 1
  have k2 := row_cell d1 2
  simp at k0 k1 k2
  have k3 := row_cell d2 0
  have k4 := row_cell d2 1
  have k5 := row_cell d2 2
  simp at k3 k4 k5
  have H_q4 := Lib.hid q4; clear q4
  have H_p4 := Lib.hid p4; clear p4
  have H_op4 := Lib.hid op4; clear op4
  have H_lp4 := Lib.hid lp4; clear lp4
  have H_g4 := Lib.hid g4; clear g4
  have H_d1 := Lib.hid d1; clear d1
  have H_d2 := Lib.hid d2; clear d2
  go_wp2_with (fail)
  refine (setFint_any q _ 0 c2 _ (by omega) H_q4.out).mono ?_
  rintro e w5 ⟨rfl, hb⟩
  have p5 := hb.other H_p4.out H_q4.out hpq (fun k _ h => by simp [Value.ownBlock] at h)
  have oq5 : ∃ vq, BI w5 q vq c2 ∧ (∀ k, vq.ownBlock = some k → w4.heap.size ≤ k) := by
    obtain ⟨vq, h1, _, h3⟩ := hb
    exact ⟨vq, h1, fun k hk => (h3 k hk).resolve_left (fun h => by simp [Value.ownBlock] at h)⟩
  obtain ⟨_, _, _, g5⟩ := hb.fresh_of H_g4.out H_hq1.out (fun k h => by simp [Value.ownBlock] at h)
  obtain ⟨vq, q5, oq5⟩ := oq5
  have sep : ∀ k, vp.ownBlock = some k → vq.ownBlock ≠ some k := fun k h e => by have := H_lp4.out k h; have := oq5 k e; omega
  have oq1 : ∀ k, vq.ownBlock = some k → w1.heap.size ≤ k := fun k h => Nat.le_trans H_g4.out.size (oq5 k h)
  clear hb oq5 k0 k1 k2 k3 k4 k5
  have d1 := row_fresh H_b1.out g5
  have d2 := row_fresh H_b2.out g5
  have k0 := row_cell d1 0
  have k1 := row_cell d1 1
  have k2 := row_cell d1 2
  simp at k0 k1 k2
  have k3 := row_cell d2 0
  have k4 := row_cell d2 1
  have k5 := row_cell d2 2
  simp at k3 k4 k5
  clear H_d1 H_d2
  have H_p5 := Lib.hid p5; clear p5
  have H_q5 := Lib.hid q5; clear q5
  have H_sep := Lib.hid sep; clear sep
  have H_oq1 := Lib.hid oq1; clear oq1
  have H_g5 := Lib.hid g5; clear g5
  have H_d1 := Lib.hid d1; clear d1
  have H_d2 := Lib.hid d2; clear d2
  go_wp2_with (fail)
  go_region_held3 (fun (w' : World) => w'.cell? ⟨g, 0, none⟩ = some (.bool n1) ∧ w'.cell? ⟨g, 1, none⟩ = some (.int .i8 s1) ∧ w'.cell? ⟨g, 2, none⟩ = some (.int .u64 c1) ∧ w'.cell? ⟨g + 1, 0, none⟩ = some (.bool n2) ∧ w'.cell? ⟨g + 1, 1, none⟩ = some (.int .i8 s2) ∧ w'.cell? ⟨g + 1, 2, none⟩ = some (.int .u64 c2)) (first | exact ⟨k0, k1, k2, k3, k4, k5⟩ | exact ⟨z10_0, z10_1, z10_2, z10_3, z10_4, z10_5⟩ | exact ⟨z12_0, z12_1, z12_2, z12_3, z12_4, z12_5⟩) (first
    | (go_at_call 78; (with_reducible refine (Scale_any n1 s1 c1 _ hs1).mono ?_); rintro e y9_ ⟨rfl, r⟩; have hy : Fresh w5 y9_ := (by first | exact r | exact r.of_drew | exact r.of_drewN); have z10_0 := cell_fresh k0 hy; have z10_1 := cell_fresh k1 hy; have z10_2 := cell_fresh k2 hy; have z10_3 := cell_fresh k3 hy; have z10_4 := cell_fresh k4 hy; have z10_5 := cell_fresh k5 hy; have fy9_ := hy; have H_fy9_ := Lib.hid fy9_; clear r hy fy9_)
    | (go_at_call 78; (with_reducible refine (Scale_any n2 s2 c2 _ hs2).mono ?_); rintro e y11_ ⟨rfl, r⟩; have hy : Fresh y9_ y11_ := r; have z12_0 := cell_fresh z10_0 hy; have z12_1 := cell_fresh z10_1 hy; have z12_2 := cell_fresh z10_2 hy; have z12_3 := cell_fresh z10_3 hy; have z12_4 := cell_fresh z10_4 hy; have z12_5 := cell_fresh z10_5 hy; have fy11_ := fresh_trans H_fy9_.out hy; have H_fy11_ := Lib.hid fy11_; clear r hy fy11_))
  have Fy11_ := H_fy11_.out
  have H_Fy11_ := Lib.hid Fy11_
  clear Fy11_
  go_wp2_with (fail)
  go_region_held3 (fun (w' : World) => w'.cell? ⟨g, 0, none⟩ = some (.bool n1) ∧ w'.cell? ⟨g, 1, none⟩ = some (.int .i8 s1) ∧ w'.cell? ⟨g, 2, none⟩ = some (.int .u64 c1) ∧ w'.cell? ⟨g + 1, 0, none⟩ = some (.bool n2) ∧ w'.cell? ⟨g + 1, 1, none⟩ = some (.int .i8 s2) ∧ w'.cell? ⟨g + 1, 2, none⟩ = some (.int .u64 c2)) (first | exact ⟨u0, u1, u2, u3, u4, u5⟩ | exact ⟨z12_0, z12_1, z12_2, z12_3, z12_4, z12_5⟩ | exact ⟨z14_0, z14_1, z14_2, z14_3, z14_4, z14_5⟩ | exact ⟨z16_0, z16_1, z16_2, z16_3, z16_4, z16_5⟩) (first
    | (go_at_call 78; (with_reducible refine (Scale_any n1 s1 c1 _ hs1).mono ?_); rintro e y13_ ⟨rfl, r⟩; have hy : Fresh y11_ y13_ := (by first | exact r | exact r.of_drew | exact r.of_drewN); have z14_0 := cell_fresh z12_0 hy; have z14_1 := cell_fresh z12_1 hy; have z14_2 := cell_fresh z12_2 hy; have z14_3 := cell_fresh z12_3 hy; have z14_4 := cell_fresh z12_4 hy; have z14_5 := cell_fresh z12_5 hy; have fy13_ := hy; have H_fy13_ := Lib.hid fy13_; clear r hy fy13_)
    | (go_at_call 78; (with_reducible refine (Scale_any n2 s2 c2 _ hs2).mono ?_); rintro e y15_ ⟨rfl, r⟩; have hy : Fresh y13_ y15_ := r; have z16_0 := cell_fresh z14_0 hy; have z16_1 := cell_fresh z14_1 hy; have z16_2 := cell_fresh z14_2 hy; have z16_3 := cell_fresh z14_3 hy; have z16_4 := cell_fresh z14_4 hy; have z16_5 := cell_fresh z14_5 hy; have fy15_ := fresh_trans H_fy13_.out hy; have H_fy15_ := Lib.hid fy15_; clear r hy fy15_)
    | (go_at_call 87; (with_reducible refine (lsh_self q vq c2 k _ ((H_hG.out.fresh H_hf.out).fresh (fresh_trans H_g5.out (fresh_trans H_Fy11_.out H_fy15_.out))) ((H_hP.out.fresh H_hf.out).fresh (fresh_trans H_g5.out (fresh_trans H_Fy11_.out H_fy15_.out))) (wpow_big (by omega)) hk19 (H_q5.out.fresh (fresh_trans H_Fy11_.out H_fy15_.out))).mono ?_); rintro e w6 ⟨rfl, hb⟩; have oz := hb.other (H_p5.out.fresh (fresh_trans H_Fy11_.out H_fy15_.out)) (H_q5.out.fresh (fresh_trans H_Fy11_.out H_fy15_.out)) hpq (fun k h => H_sep.out k h); obtain ⟨vz, xz, ovz, gz⟩ := hb.fresh_of (fresh_trans H_g5.out (fresh_trans H_Fy11_.out H_fy15_.out)) (H_hq1.out) H_oq1.out; have e1 := row_fresh H_b1.out gz; have e2 := row_fresh H_b2.out gz; have u0 := row_cell e1 0; have u1 := row_cell e1 1; have u2 := row_cell e1 2; have u3 := row_cell e2 0; have u4 := row_cell e2 1; have u5 := row_cell e2 2; simp at u0 u1 u2 u3 u4 u5; have H_oz := Lib.hid oz; have H_xz := Lib.hid xz; have H_gz := Lib.hid gz; clear oz xz gz ovz e1 e2 hb))
  go_wp2_with (fail)
  have pz := H_oz.out
  have qz := H_xz.out
  have H_pz := Lib.hid pz; clear pz
  have H_qz := Lib.hid qz; clear qz
  refine (bcmp_any p q _ _ c1 (c2 * 10 ^ k) _ (wpow_big (by omega)) (ten_wpow hc2 hk19) hpq H_pz.out H_qz.out).mono ?_
  rintro e w7 ⟨rfl, nq, rfl⟩
  have gq := Keep.drewN H_gz.out nq
  generalize hwq : World.drewN _ nq = wq at *
  have d1 := row_fresh H_b1.out gq
  have d2 := row_fresh H_b2.out gq
  have v0 := row_cell d1 0
  have v1 := row_cell d1 1
  have v2 := row_cell d1 2
  have v3 := row_cell d2 0
  have v4 := row_cell d2 1
  have v5 := row_cell d2 2
  simp at v0 v1 v2 v3 v4 v5
  have H_gq := Lib.hid gq; clear gq
  have H_d1 := Lib.hid d1; clear d1
  have H_d2 := Lib.hid d2; clear d2
  have H_hwq := Lib.hid hwq; clear hwq
  rcases cmpN_cases c1 (c2 * 10 ^ k) with ⟨hr, hcc⟩ | ⟨hr, hcc⟩ | ⟨hr, hcc⟩
  · rw [hr]
    have hv : cmpA sg c1 (c2 * 10 ^ k) = sg := by unfold cmpA; rw [if_pos hcc]
    have H_hv := Lib.hid hv
    clear hv hr hcc
    go_wp2_with (fail)
    refine (H_hsd.out _).mono ?_
    rintro e wz ⟨rfl, r⟩
    have H_rz := Lib.hid r
    clear r
    go_wp2_with (fail)
    refine leaves_cons (f := 85) (args := #[.pointer (some ⟨q, 0, none⟩)]) (by simp) (by simp [go_sem]) ?_
    refine (putBint_idle _ _).mono ?_
    rintro e u' w'' ⟨rfl, rfl, rfl⟩
    refine leaves_cons (f := 85) (args := #[.pointer (some ⟨p, 0, none⟩)]) (by simp [settle]) (by simp [go_sem]) ?_
    refine (putBint_idle _ _).mono ?_
    rintro e u' w'' ⟨rfl, rfl, rfl⟩
    refine ⟨.int .i64 sg, by simp [results, Tryz.results72], by rw [H_hv.out], fresh_trans (fresh_trans H_hf.out H_gq.out) H_rz.out⟩
  · rw [hr]
    have hv : cmpA sg c1 (c2 * 10 ^ k) = -sg := by unfold cmpA; rw [if_neg (by omega), if_pos hcc]
    have H_hv := Lib.hid hv
    clear hv hr hcc
    go_wp2_with (fail)
    refine (H_hse.out _).mono ?_
    rintro e wz ⟨rfl, r⟩
    have H_rz := Lib.hid r
    clear r
    go_wp2_with (fail)
    refine leaves_cons (f := 85) (args := #[.pointer (some ⟨q, 0, none⟩)]) (by simp) (by simp [go_sem]) ?_
    refine (putBint_idle _ _).mono ?_
    rintro e u' w'' ⟨rfl, rfl, rfl⟩
    refine leaves_cons (f := 85) (args := #[.pointer (some ⟨p, 0, none⟩)]) (by simp [settle]) (by simp [go_sem]) ?_
    refine (putBint_idle _ _).mono ?_
    rintro e u' w'' ⟨rfl, rfl, rfl⟩
    refine ⟨.int .i64 (-sg), by simp [results, Tryz.results72], by rw [H_hv.out], fresh_trans (fresh_trans H_hf.out H_gq.out) H_rz.out⟩
  · rw [hr]
    have hv : cmpA sg c1 (c2 * 10 ^ k) = 0 := by unfold cmpA; rw [if_neg (by omega), if_neg (by omega)]
    have H_hv := Lib.hid hv
    clear hv hr hcc
    go_wp2_with (fail)
    refine leaves_cons (f := 85) (args := #[.pointer (some ⟨q, 0, none⟩)]) (by simp) (by simp [go_sem]) ?_
    refine (putBint_idle _ _).mono ?_
    rintro e u' w'' ⟨rfl, rfl, rfl⟩
    refine leaves_cons (f := 85) (args := #[.pointer (some ⟨p, 0, none⟩)]) (by simp [settle]) (by simp [go_sem]) ?_
    refine (putBint_idle _ _).mono ?_
    rintro e u' w'' ⟨rfl, rfl, rfl⟩
    refine ⟨.int .i64 0, by simp [results, Tryz.results72], by rw [H_hv.out], fresh_trans H_hf.out H_gq.out⟩

set_option maxRecDepth 20000 in
set_option maxHeartbeats 8000000 in
theorem cmpBint_lt (n1 n2 : Bool) (c1 s1 c2 s2 : Nat) (w : World) (hG : Glob w) (hP : Pow10s w) (hs1 : s1 ≤ 19) (hs2 : s2 ≤ 19) (hc1 : c1 ≤ 9999999999999999999) (hc2 : c2 ≤ 9999999999999999999) (hsg : gsign n1 c1 = gsign n2 c2) (hlt : s1 < s2) :
    Calls Tryz.prog 72 #[gd n1 s1 c1, gd n2 s2 c2] w (VRet w (.int .i64 (cmpA (gsign n1 c1) (c1 * 10 ^ (s2 - s1)) (c2 * 10 ^ (s1 - s2))))) := by
  have hsd := fun W => Sign_any n1 s1 c1 W
  have hse := fun W => Sign_any n2 s2 c2 W
  have hbd := gsign_bd n1 c1
  rw [← hsg] at hse
  generalize gsign n1 c1 = sg at *
  clear hsg
  have tw : IntKind.i64.wrap (-sg) = -sg := by rw [IntKind.wrap_i64]; omega
  have hGs := hG.size
  rw [show s1 - s2 = 0 by omega, Nat.pow_zero, Nat.mul_one]
  have hnlt : ¬ s2 < s1 := by omega
  have t0 : decide ((s2 : Int) < (s1 : Int)) = false := by simp; omega
  have t1 : decide ((s1 : Int) < (s2 : Int)) = true := by simp; omega
  obtain ⟨k, hk⟩ : ∃ k, k = s2 - s1 := ⟨_, rfl⟩
  rw [← hk]
  have hk19 : k ≤ 19 := by omega
  have hkI : (s2 : Int) - (s1 : Int) = (k : Int) := by omega
  have hkw : IntKind.i64.wrap (k : Int) = (k : Int) := wrap_nat k (by omega)
  clear hk
  obtain ⟨g, hg⟩ : ∃ g, g = w.heap.size := ⟨_, rfl⟩
  have bx := boxes2 w #[.bool n1, .int .i8 s1, .int .u64 c1] #[.bool n2, .int .i8 s2, .int .u64 c2] 65 65 g hg
  clear hbd
  have H_bx := Lib.hid bx; clear bx
  have H_hP := Lib.hid hP; clear hP
  have H_hG := Lib.hid hG; clear hG
  have H_hGs := Lib.hid hGs; clear hGs
  have H_hsd := Lib.hid hsd; clear hsd
  have H_hse := Lib.hid hse; clear hse
  go_enter_defers Tryz.func72, Tryz.ntmps72
  go_wp2_with (fail)
  generalize hw1 : (w.alloc _).alloc _ = w1
  rw [← hg]
  obtain ⟨b1, b2, hf⟩ := H_bx.out w1 hw1
  have k0 := row_cell b1 0
  have k1 := row_cell b1 1
  have k2 := row_cell b1 2
  simp at k0 k1 k2
  have k3 := row_cell b2 0
  have k4 := row_cell b2 1
  have k5 := row_cell b2 2
  simp at k3 k4 k5
  have hGs1 : NG ≤ w1.heap.size := Nat.le_trans H_hGs.out hf.size
  obtain ⟨p, hp⟩ : ∃ p, p = w1.heap.size := ⟨_, rfl⟩
  have hgb := getBint_any w1 hGs1
  rw [← hp] at hgb
  have H_b1 := Lib.hid b1; clear b1
  have H_b2 := Lib.hid b2; clear b2
  have H_hf := Lib.hid hf; clear hf
  have H_hw1 := Lib.hid hw1; clear hw1
  have H_hg := Lib.hid hg; clear hg
  have H_hGs1 := Lib.hid hGs1; clear hGs1
  have H_hp := Lib.hid hp; clear hp
  refine hgb.mono ?_
  clear hgb
  rintro e w2 ⟨rfl, p2, f2, z2⟩
  have m0 := cell_fresh k0 f2
  have m1 := cell_fresh k1 f2
  have m2 := cell_fresh k2 f2
  have m3 := cell_fresh k3 f2
  have m4 := cell_fresh k4 f2
  have m5 := cell_fresh k5 f2
  clear k0 k1 k2 k3 k4 k5
  obtain ⟨q, hq⟩ : ∃ q, q = w2.heap.size := ⟨_, rfl⟩
  have hgb := getBint_any w2 (Nat.le_trans H_hGs1.out f2.size)
  rw [← hq] at hgb
  have hpq : p ≠ q := by have := p2.lt; omega
  have hq1 : w1.heap.size ≤ q := by have := f2.size; omega
  have H_p2 := Lib.hid p2; clear p2
  have H_f2 := Lib.hid f2; clear f2
  have H_z2 := Lib.hid z2; clear z2
  have H_hq := Lib.hid hq; clear hq
  have H_hq1 := Lib.hid hq1; clear hq1
  go_wp2_with (fail)
  refine hgb.mono ?_
  clear hgb
  rintro e w3 ⟨rfl, q3, f3, z3⟩
  have k0 := cell_fresh m0 f3
  have k1 := cell_fresh m1 f3
  have k2 := cell_fresh m2 f3
  have k3 := cell_fresh m3 f3
  have k4 := cell_fresh m4 f3
  have k5 := cell_fresh m5 f3
  clear m0 m1 m2 m3 m4 m5
  have p3 := H_p2.out.fresh f3
  have g3 := fresh_trans H_f2.out f3
  have H_p3 := Lib.hid p3; clear p3
  have H_q3 := Lib.hid q3; clear q3
  have H_f3 := Lib.hid f3; clear f3
  have H_z3 := Lib.hid z3; clear z3
  have H_g3 := Lib.hid g3; clear g3
  go_wp2_with (fail)
  refine (setFint_any p _ 0 c1 _ (by omega) H_p3.out).mono ?_
  rintro e w4 ⟨rfl, hb⟩
  have q4 := hb.other H_q3.out H_p3.out (fun e => hpq e.symm) (fun k h => by simp [Value.ownBlock] at h)
  obtain ⟨vp, p4, op4, g4⟩ := hb.fresh_of H_g3.out (by have := H_hp.out; omega) (fun k h => by simp [Value.ownBlock] at h)
  have lp4 : ∀ k, vp.ownBlock = some k → k < w4.heap.size := fun k h => p4.own_lt h
  clear hb
  clear k0 k1 k2 k3 k4 k5
  have d1 := row_fresh H_b1.out g4
  have d2 := row_fresh H_b2.out g4
  have k0 := row_cell d1 0
  have k1 := row_cell d1 1
  have k2 := row_cell d1 2
  simp at k0 k1 k2
  have k3 := row_cell d2 0
  have k4 := row_cell d2 1
  have k5 := row_cell d2 2
  simp at k3 k4 k5
  have H_q4 := Lib.hid q4; clear q4
  have H_p4 := Lib.hid p4; clear p4
  have H_op4 := Lib.hid op4; clear op4
  have H_lp4 := Lib.hid lp4; clear lp4
  have H_g4 := Lib.hid g4; clear g4
  have H_d1 := Lib.hid d1; clear d1
  have H_d2 := Lib.hid d2; clear d2
  go_wp2_with (fail)
  refine (setFint_any q _ 0 c2 _ (by omega) H_q4.out).mono ?_
  rintro e w5 ⟨rfl, hb⟩
  have p5 := hb.other H_p4.out H_q4.out hpq (fun k _ h => by simp [Value.ownBlock] at h)
  have oq5 : ∃ vq, BI w5 q vq c2 ∧ (∀ k, vq.ownBlock = some k → w4.heap.size ≤ k) := by
    obtain ⟨vq, h1, _, h3⟩ := hb
    exact ⟨vq, h1, fun k hk => (h3 k hk).resolve_left (fun h => by simp [Value.ownBlock] at h)⟩
  obtain ⟨_, _, _, g5⟩ := hb.fresh_of H_g4.out H_hq1.out (fun k h => by simp [Value.ownBlock] at h)
  obtain ⟨vq, q5, oq5⟩ := oq5
  have sep : ∀ k, vp.ownBlock = some k → vq.ownBlock ≠ some k := fun k h e => by have := H_lp4.out k h; have := oq5 k e; omega
  have oq1 : ∀ k, vq.ownBlock = some k → w1.heap.size ≤ k := fun k h => Nat.le_trans H_g4.out.size (oq5 k h)
  clear hb oq5 k0 k1 k2 k3 k4 k5
  have d1 := row_fresh H_b1.out g5
  have d2 := row_fresh H_b2.out g5
  have k0 := row_cell d1 0
  have k1 := row_cell d1 1
  have k2 := row_cell d1 2
  simp at k0 k1 k2
  have k3 := row_cell d2 0
  have k4 := row_cell d2 1
  have k5 := row_cell d2 2
  simp at k3 k4 k5
  clear H_d1 H_d2
  have H_p5 := Lib.hid p5; clear p5
  have H_q5 := Lib.hid q5; clear q5
  have H_sep := Lib.hid sep; clear sep
  have H_oq1 := Lib.hid oq1; clear oq1
  have H_g5 := Lib.hid g5; clear g5
  have H_d1 := Lib.hid d1; clear d1
  have H_d2 := Lib.hid d2; clear d2
  go_wp2_with (fail)
  go_region_held3 (fun (w' : World) => w'.cell? ⟨g, 0, none⟩ = some (.bool n1) ∧ w'.cell? ⟨g, 1, none⟩ = some (.int .i8 s1) ∧ w'.cell? ⟨g, 2, none⟩ = some (.int .u64 c1) ∧ w'.cell? ⟨g + 1, 0, none⟩ = some (.bool n2) ∧ w'.cell? ⟨g + 1, 1, none⟩ = some (.int .i8 s2) ∧ w'.cell? ⟨g + 1, 2, none⟩ = some (.int .u64 c2)) (first | exact ⟨k0, k1, k2, k3, k4, k5⟩ | exact ⟨z18_0, z18_1, z18_2, z18_3, z18_4, z18_5⟩ | exact ⟨z20_0, z20_1, z20_2, z20_3, z20_4, z20_5⟩) (first
    | (go_at_call 78; (with_reducible refine (Scale_any n1 s1 c1 _ hs1).mono ?_); rintro e y17_ ⟨rfl, r⟩; have hy : Fresh w5 y17_ := (by first | exact r | exact r.of_drew | exact r.of_drewN); have z18_0 := cell_fresh k0 hy; have z18_1 := cell_fresh k1 hy; have z18_2 := cell_fresh k2 hy; have z18_3 := cell_fresh k3 hy; have z18_4 := cell_fresh k4 hy; have z18_5 := cell_fresh k5 hy; have fy17_ := hy; have H_fy17_ := Lib.hid fy17_; clear r hy fy17_)
    | (go_at_call 78; (with_reducible refine (Scale_any n2 s2 c2 _ hs2).mono ?_); rintro e y19_ ⟨rfl, r⟩; have hy : Fresh y17_ y19_ := r; have z20_0 := cell_fresh z18_0 hy; have z20_1 := cell_fresh z18_1 hy; have z20_2 := cell_fresh z18_2 hy; have z20_3 := cell_fresh z18_3 hy; have z20_4 := cell_fresh z18_4 hy; have z20_5 := cell_fresh z18_5 hy; have fy19_ := fresh_trans H_fy17_.out hy; have H_fy19_ := Lib.hid fy19_; clear r hy fy19_))
  have Fy19_ := H_fy19_.out
  have H_Fy19_ := Lib.hid Fy19_
  clear Fy19_
  go_wp2_with (fail)
  go_region_held3 (fun (w' : World) => w'.cell? ⟨g, 0, none⟩ = some (.bool n1) ∧ w'.cell? ⟨g, 1, none⟩ = some (.int .i8 s1) ∧ w'.cell? ⟨g, 2, none⟩ = some (.int .u64 c1) ∧ w'.cell? ⟨g + 1, 0, none⟩ = some (.bool n2) ∧ w'.cell? ⟨g + 1, 1, none⟩ = some (.int .i8 s2) ∧ w'.cell? ⟨g + 1, 2, none⟩ = some (.int .u64 c2)) (first | exact ⟨z20_0, z20_1, z20_2, z20_3, z20_4, z20_5⟩ | exact ⟨z22_0, z22_1, z22_2, z22_3, z22_4, z22_5⟩ | exact ⟨z24_0, z24_1, z24_2, z24_3, z24_4, z24_5⟩) (first
    | (go_at_call 78; (with_reducible refine (Scale_any n1 s1 c1 _ hs1).mono ?_); rintro e y21_ ⟨rfl, r⟩; have hy : Fresh y19_ y21_ := (by first | exact r | exact r.of_drew | exact r.of_drewN); have z22_0 := cell_fresh z20_0 hy; have z22_1 := cell_fresh z20_1 hy; have z22_2 := cell_fresh z20_2 hy; have z22_3 := cell_fresh z20_3 hy; have z22_4 := cell_fresh z20_4 hy; have z22_5 := cell_fresh z20_5 hy; have fy21_ := hy; have H_fy21_ := Lib.hid fy21_; clear r hy fy21_)
    | (go_at_call 78; (with_reducible refine (Scale_any n2 s2 c2 _ hs2).mono ?_); rintro e y23_ ⟨rfl, r⟩; have hy : Fresh y21_ y23_ := r; have z24_0 := cell_fresh z22_0 hy; have z24_1 := cell_fresh z22_1 hy; have z24_2 := cell_fresh z22_2 hy; have z24_3 := cell_fresh z22_3 hy; have z24_4 := cell_fresh z22_4 hy; have z24_5 := cell_fresh z22_5 hy; have fy23_ := fresh_trans H_fy21_.out hy; have H_fy23_ := Lib.hid fy23_; clear r hy fy23_))
  have Fy23_ := fresh_trans H_Fy19_.out H_fy23_.out
  have H_Fy23_ := Lib.hid Fy23_
  clear Fy23_
  go_wp2_with (fail)
  go_region_held3 (fun (w' : World) => w'.cell? ⟨g, 0, none⟩ = some (.bool n1) ∧ w'.cell? ⟨g, 1, none⟩ = some (.int .i8 s1) ∧ w'.cell? ⟨g, 2, none⟩ = some (.int .u64 c1) ∧ w'.cell? ⟨g + 1, 0, none⟩ = some (.bool n2) ∧ w'.cell? ⟨g + 1, 1, none⟩ = some (.int .i8 s2) ∧ w'.cell? ⟨g + 1, 2, none⟩ = some (.int .u64 c2)) (first | exact ⟨u0, u1, u2, u3, u4, u5⟩ | exact ⟨z24_0, z24_1, z24_2, z24_3, z24_4, z24_5⟩ | exact ⟨z26_0, z26_1, z26_2, z26_3, z26_4, z26_5⟩ | exact ⟨z28_0, z28_1, z28_2, z28_3, z28_4, z28_5⟩) (first
    | (go_at_call 78; (with_reducible refine (Scale_any n2 s2 c2 _ hs2).mono ?_); rintro e y25_ ⟨rfl, r⟩; have hy : Fresh y23_ y25_ := (by first | exact r | exact r.of_drew | exact r.of_drewN); have z26_0 := cell_fresh z24_0 hy; have z26_1 := cell_fresh z24_1 hy; have z26_2 := cell_fresh z24_2 hy; have z26_3 := cell_fresh z24_3 hy; have z26_4 := cell_fresh z24_4 hy; have z26_5 := cell_fresh z24_5 hy; have fy25_ := hy; have H_fy25_ := Lib.hid fy25_; clear r hy fy25_)
    | (go_at_call 78; (with_reducible refine (Scale_any n1 s1 c1 _ hs1).mono ?_); rintro e y27_ ⟨rfl, r⟩; have hy : Fresh y25_ y27_ := r; have z28_0 := cell_fresh z26_0 hy; have z28_1 := cell_fresh z26_1 hy; have z28_2 := cell_fresh z26_2 hy; have z28_3 := cell_fresh z26_3 hy; have z28_4 := cell_fresh z26_4 hy; have z28_5 := cell_fresh z26_5 hy; have fy27_ := fresh_trans H_fy25_.out hy; have H_fy27_ := Lib.hid fy27_; clear r hy fy27_)
    | (go_at_call 87; (with_reducible refine (lsh_self p vp c1 k _ ((H_hG.out.fresh H_hf.out).fresh (fresh_trans H_g5.out (fresh_trans H_Fy23_.out H_fy27_.out))) ((H_hP.out.fresh H_hf.out).fresh (fresh_trans H_g5.out (fresh_trans H_Fy23_.out H_fy27_.out))) (wpow_big (by omega)) hk19 (H_p5.out.fresh (fresh_trans H_Fy23_.out H_fy27_.out))).mono ?_); rintro e w6 ⟨rfl, hb⟩; have oz := hb.other (H_q5.out.fresh (fresh_trans H_Fy23_.out H_fy27_.out)) (H_p5.out.fresh (fresh_trans H_Fy23_.out H_fy27_.out)) (fun e => hpq e.symm) (fun k h e => H_sep.out k e h); obtain ⟨vz, xz, ovz, gz⟩ := hb.fresh_of (fresh_trans H_g5.out (fresh_trans H_Fy23_.out H_fy27_.out)) (by have := H_hp.out; omega) H_op4.out; have e1 := row_fresh H_b1.out gz; have e2 := row_fresh H_b2.out gz; have u0 := row_cell e1 0; have u1 := row_cell e1 1; have u2 := row_cell e1 2; have u3 := row_cell e2 0; have u4 := row_cell e2 1; have u5 := row_cell e2 2; simp at u0 u1 u2 u3 u4 u5; have H_oz := Lib.hid oz; have H_xz := Lib.hid xz; have H_gz := Lib.hid gz; clear oz xz gz ovz e1 e2 hb))
  go_wp2_with (fail)
  have pz := H_xz.out
  have qz := H_oz.out
  have H_pz := Lib.hid pz; clear pz
  have H_qz := Lib.hid qz; clear qz
  refine (bcmp_any p q _ _ (c1 * 10 ^ k) c2 _ (ten_wpow hc1 hk19) (wpow_big (by omega)) hpq H_pz.out H_qz.out).mono ?_
  rintro e w7 ⟨rfl, nq, rfl⟩
  have gq := Keep.drewN H_gz.out nq
  generalize hwq : World.drewN _ nq = wq at *
  have d1 := row_fresh H_b1.out gq
  have d2 := row_fresh H_b2.out gq
  have v0 := row_cell d1 0
  have v1 := row_cell d1 1
  have v2 := row_cell d1 2
  have v3 := row_cell d2 0
  have v4 := row_cell d2 1
  have v5 := row_cell d2 2
  simp at v0 v1 v2 v3 v4 v5
  have H_gq := Lib.hid gq; clear gq
  have H_d1 := Lib.hid d1; clear d1
  have H_d2 := Lib.hid d2; clear d2
  have H_hwq := Lib.hid hwq; clear hwq
  rcases cmpN_cases (c1 * 10 ^ k) c2 with ⟨hr, hcc⟩ | ⟨hr, hcc⟩ | ⟨hr, hcc⟩
  · rw [hr]
    have hv : cmpA sg (c1 * 10 ^ k) c2 = sg := by unfold cmpA; rw [if_pos hcc]
    have H_hv := Lib.hid hv
    clear hv hr hcc
    go_wp2_with (fail)
    refine (H_hsd.out _).mono ?_
    rintro e wz ⟨rfl, r⟩
    have H_rz := Lib.hid r
    clear r
    go_wp2_with (fail)
    refine leaves_cons (f := 85) (args := #[.pointer (some ⟨q, 0, none⟩)]) (by simp) (by simp [go_sem]) ?_
    refine (putBint_idle _ _).mono ?_
    rintro e u' w'' ⟨rfl, rfl, rfl⟩
    refine leaves_cons (f := 85) (args := #[.pointer (some ⟨p, 0, none⟩)]) (by simp [settle]) (by simp [go_sem]) ?_
    refine (putBint_idle _ _).mono ?_
    rintro e u' w'' ⟨rfl, rfl, rfl⟩
    refine ⟨.int .i64 sg, by simp [results, Tryz.results72], by rw [H_hv.out], fresh_trans (fresh_trans H_hf.out H_gq.out) H_rz.out⟩
  · rw [hr]
    have hv : cmpA sg (c1 * 10 ^ k) c2 = -sg := by unfold cmpA; rw [if_neg (by omega), if_pos hcc]
    have H_hv := Lib.hid hv
    clear hv hr hcc
    go_wp2_with (fail)
    refine (H_hse.out _).mono ?_
    rintro e wz ⟨rfl, r⟩
    have H_rz := Lib.hid r
    clear r
    go_wp2_with (fail)
    refine leaves_cons (f := 85) (args := #[.pointer (some ⟨q, 0, none⟩)]) (by simp) (by simp [go_sem]) ?_
    refine (putBint_idle _ _).mono ?_
    rintro e u' w'' ⟨rfl, rfl, rfl⟩
    refine leaves_cons (f := 85) (args := #[.pointer (some ⟨p, 0, none⟩)]) (by simp [settle]) (by simp [go_sem]) ?_
    refine (putBint_idle _ _).mono ?_
    rintro e u' w'' ⟨rfl, rfl, rfl⟩
    refine ⟨.int .i64 (-sg), by simp [results, Tryz.results72], by rw [H_hv.out], fresh_trans (fresh_trans H_hf.out H_gq.out) H_rz.out⟩
  · rw [hr]
    have hv : cmpA sg (c1 * 10 ^ k) c2 = 0 := by unfold cmpA; rw [if_neg (by omega), if_neg (by omega)]
    have H_hv := Lib.hid hv
    clear hv hr hcc
    go_wp2_with (fail)
    refine leaves_cons (f := 85) (args := #[.pointer (some ⟨q, 0, none⟩)]) (by simp) (by simp [go_sem]) ?_
    refine (putBint_idle _ _).mono ?_
    rintro e u' w'' ⟨rfl, rfl, rfl⟩
    refine leaves_cons (f := 85) (args := #[.pointer (some ⟨p, 0, none⟩)]) (by simp [settle]) (by simp [go_sem]) ?_
    refine (putBint_idle _ _).mono ?_
    rintro e u' w'' ⟨rfl, rfl, rfl⟩
    refine ⟨.int .i64 0, by simp [results, Tryz.results72], by rw [H_hv.out], fresh_trans H_hf.out H_gq.out⟩

theorem cmpBint_any (n1 n2 : Bool) (c1 s1 c2 s2 : Nat) (w : World) (hG : Glob w) (hP : Pow10s w) (hs1 : s1 ≤ 19) (hs2 : s2 ≤ 19) (hc1 : c1 ≤ 9999999999999999999) (hc2 : c2 ≤ 9999999999999999999) (hsg : gsign n1 c1 = gsign n2 c2) :
    Calls Tryz.prog 72 #[gd n1 s1 c1, gd n2 s2 c2] w (VRet w (.int .i64 (cmpA (gsign n1 c1) (c1 * 10 ^ (s2 - s1)) (c2 * 10 ^ (s1 - s2))))) := by
  rcases Nat.lt_trichotomy s1 s2 with h | h | h
  · exact cmpBint_lt n1 n2 c1 s1 c2 s2 w hG hP hs1 hs2 hc1 hc2 hsg h
  · exact cmpBint_eq n1 n2 c1 s1 c2 s2 w hG hP hs1 hs2 hc1 hc2 hsg h
  · exact cmpBint_gt n1 n2 c1 s1 c2 s2 w hG hP hs1 hs2 hc1 hc2 hsg h

end Go.Proofs.YtecadiflbfpofaaGreatDoor

/- govalues' decimals compared: Cmp, CmpTotal; and the reference's order of them. -/
namespace Go.Proofs.YtecadiflbfpofaaGreatDoor
open Go.RowKit

theorem zcmp_cases (n1 : Bool) (c1 s1 : Nat) (n2 : Bool) (c2 s2 : Nat) : zcmp n1 c1 s1 n2 c2 s2 = -1 ∨ zcmp n1 c1 s1 n2 c2 s2 = 1 ∨ zcmp n1 c1 s1 n2 c2 s2 = 0 := by
  unfold zcmp cmpZ
  split
  · exact .inl rfl
  · split
    · exact .inr (.inl rfl)
    · exact .inr (.inr rfl)

/-- the order of all forms, out of how they compare, and their places -/
def ctot (z : Int) (s1 s2 : Nat) : Int := if z = -1 then -1 else if z = 1 then 1 else if s2 < s1 then -1 else if s1 < s2 then 1 else 0

theorem zfix_canon (n : Bool) (c : Nat) : zfix (n && decide (0 < c)) c = zfix n c := by
  rcases Nat.eq_zero_or_pos c with h | h
  · subst h; cases n <;> rfl
  · have : decide (0 < c) = true := by simp; omega
    rw [this, Bool.and_true]

theorem zcmp_canon (n1 : Bool) (c1 s1 : Nat) (n2 : Bool) (c2 s2 : Nat) : zcmp (n1 && decide (0 < c1)) c1 s1 (n2 && decide (0 < c2)) c2 s2 = zcmp n1 c1 s1 n2 c2 s2 := by
  unfold zcmp; rw [zfix_canon, zfix_canon]

theorem canon_pos {n : Bool} {c : Nat} (h : (n && decide (0 < c)) = true) : 0 < c := by
  rw [Bool.and_eq_true] at h; simpa using h.2

set_option maxRecDepth 20000 in
set_option maxHeartbeats 4000000 in
theorem Cmp_gt (n1 n2 : Bool) (c1 s1 c2 s2 : Nat) (w : World) (hG : Glob w) (hP : Pow10s w) (hE : ErrIs w) (_hs1 : s1 ≤ 19) (_hs2 : s2 ≤ 19) (_hc1 : c1 ≤ 9999999999999999999) (_hc2 : c2 ≤ 9999999999999999999) (h1 : n1 = true → 0 < c1) (h2 : n2 = true → 0 < c2) (hsg : gsign n2 c2 < gsign n1 c1) :
    Calls Tryz.prog 37 #[gd n1 s1 c1, gd n2 s2 c2] w (VRet w (.int .i64 (zcmp n1 c1 s1 n2 c2 s2))) := by
  rw [zcmp_gt h1 h2 hsg]
  have hsd := fun W => Sign_any n1 s1 c1 W
  have hse := fun W => Sign_any n2 s2 c2 W
  generalize gsign n1 c1 = a at *
  generalize gsign n2 c2 = b at *
  have t1 : decide (b < a) = true := by simp; omega
  obtain ⟨g, hg⟩ : ∃ g, g = w.heap.size := ⟨_, rfl⟩
  have bx := boxes2 w #[.bool n1, .int .i8 s1, .int .u64 c1] #[.bool n2, .int .i8 s2, .int .u64 c2] 65 65 g hg
  have H_bx := Lib.hid bx; clear bx
  have H_hsd := Lib.hid hsd; clear hsd
  have H_hse := Lib.hid hse; clear hse
  have H_hG := Lib.hid hG; clear hG
  have H_hP := Lib.hid hP; clear hP
  have H_hE := Lib.hid hE; clear hE
  have H_h1 := Lib.hid h1; clear h1
  have H_h2 := Lib.hid h2; clear h2
  go_enter Tryz.func37, Tryz.ntmps37
  go_wp2_with (fail)
  generalize hw1 : (w.alloc _).alloc _ = w1
  rw [← hg]
  obtain ⟨b1, b2, hf⟩ := H_bx.out w1 hw1
  have k0 := row_cell b1 0
  have k1 := row_cell b1 1
  have k2 := row_cell b1 2
  simp at k0 k1 k2
  have k3 := row_cell b2 0
  have k4 := row_cell b2 1
  have k5 := row_cell b2 2
  simp at k3 k4 k5
  have H_b1 := Lib.hid b1; clear b1
  have H_b2 := Lib.hid b2; clear b2
  have H_hf := Lib.hid hf; clear hf
  have H_hw1 := Lib.hid hw1; clear hw1
  have H_hg := Lib.hid hg; clear hg
  go_region_held3 (fun (w' : World) => w'.cell? ⟨g, 0, none⟩ = some (.bool n1) ∧ w'.cell? ⟨g, 1, none⟩ = some (.int .i8 s1) ∧ w'.cell? ⟨g, 2, none⟩ = some (.int .u64 c1) ∧ w'.cell? ⟨g + 1, 0, none⟩ = some (.bool n2) ∧ w'.cell? ⟨g + 1, 1, none⟩ = some (.int .i8 s2) ∧ w'.cell? ⟨g + 1, 2, none⟩ = some (.int .u64 c2)) (first | exact ⟨k0, k1, k2, k3, k4, k5⟩ | exact ⟨z2_0, z2_1, z2_2, z2_3, z2_4, z2_5⟩ | exact ⟨z4_0, z4_1, z4_2, z4_3, z4_4, z4_5⟩) (first
    | (go_at_call 56; (with_reducible refine (H_hsd.out _).mono ?_); rintro e y1_ ⟨rfl, r⟩; have hy : Fresh w1 y1_ := (by first | exact r | exact r.of_drew | exact r.of_drewN); have z2_0 := cell_fresh k0 hy; have z2_1 := cell_fresh k1 hy; have z2_2 := cell_fresh k2 hy; have z2_3 := cell_fresh k3 hy; have z2_4 := cell_fresh k4 hy; have z2_5 := cell_fresh k5 hy; have fy1_ := hy; have H_fy1_ := Lib.hid fy1_; clear r hy fy1_)
    | (go_at_call 56; (with_reducible refine (H_hse.out _).mono ?_); rintro e y3_ ⟨rfl, r⟩; have hy : Fresh y1_ y3_ := r; have z4_0 := cell_fresh z2_0 hy; have z4_1 := cell_fresh z2_1 hy; have z4_2 := cell_fresh z2_2 hy; have z4_3 := cell_fresh z2_3 hy; have z4_4 := cell_fresh z2_4 hy; have z4_5 := cell_fresh z2_5 hy; have fy3_ := fresh_trans H_fy1_.out hy; have H_fy3_ := Lib.hid fy3_; clear r hy fy3_))
  have Fy3_ := H_fy3_.out
  have H_Fy3_ := Lib.hid Fy3_
  clear Fy3_
  go_wp2_with (fail)
  go_ret
  exact ⟨rfl, fresh_trans H_hf.out H_Fy3_.out⟩

set_option maxRecDepth 20000 in
set_option maxHeartbeats 4000000 in
theorem Cmp_lt (n1 n2 : Bool) (c1 s1 c2 s2 : Nat) (w : World) (hG : Glob w) (hP : Pow10s w) (hE : ErrIs w) (_hs1 : s1 ≤ 19) (_hs2 : s2 ≤ 19) (_hc1 : c1 ≤ 9999999999999999999) (_hc2 : c2 ≤ 9999999999999999999) (h1 : n1 = true → 0 < c1) (h2 : n2 = true → 0 < c2) (hsg : gsign n1 c1 < gsign n2 c2) :
    Calls Tryz.prog 37 #[gd n1 s1 c1, gd n2 s2 c2] w (VRet w (.int .i64 (zcmp n1 c1 s1 n2 c2 s2))) := by
  rw [zcmp_lt h1 h2 hsg]
  have hsd := fun W => Sign_any n1 s1 c1 W
  have hse := fun W => Sign_any n2 s2 c2 W
  generalize gsign n1 c1 = a at *
  generalize gsign n2 c2 = b at *
  have t0 : decide (b < a) = false := by simp; omega
  have hn0 : ¬ b < a := by omega
  have t1 : decide (a < b) = true := by simp; omega
  obtain ⟨g, hg⟩ : ∃ g, g = w.heap.size := ⟨_, rfl⟩
  have bx := boxes2 w #[.bool n1, .int .i8 s1, .int .u64 c1] #[.bool n2, .int .i8 s2, .int .u64 c2] 65 65 g hg
  have H_bx := Lib.hid bx; clear bx
  have H_hsd := Lib.hid hsd; clear hsd
  have H_hse := Lib.hid hse; clear hse
  have H_hG := Lib.hid hG; clear hG
  have H_hP := Lib.hid hP; clear hP
  have H_hE := Lib.hid hE; clear hE
  have H_h1 := Lib.hid h1; clear h1
  have H_h2 := Lib.hid h2; clear h2
  go_enter Tryz.func37, Tryz.ntmps37
  go_wp2_with (fail)
  generalize hw1 : (w.alloc _).alloc _ = w1
  rw [← hg]
  obtain ⟨b1, b2, hf⟩ := H_bx.out w1 hw1
  have k0 := row_cell b1 0
  have k1 := row_cell b1 1
  have k2 := row_cell b1 2
  simp at k0 k1 k2
  have k3 := row_cell b2 0
  have k4 := row_cell b2 1
  have k5 := row_cell b2 2
  simp at k3 k4 k5
  have H_b1 := Lib.hid b1; clear b1
  have H_b2 := Lib.hid b2; clear b2
  have H_hf := Lib.hid hf; clear hf
  have H_hw1 := Lib.hid hw1; clear hw1
  have H_hg := Lib.hid hg; clear hg
  go_region_held3 (fun (w' : World) => w'.cell? ⟨g, 0, none⟩ = some (.bool n1) ∧ w'.cell? ⟨g, 1, none⟩ = some (.int .i8 s1) ∧ w'.cell? ⟨g, 2, none⟩ = some (.int .u64 c1) ∧ w'.cell? ⟨g + 1, 0, none⟩ = some (.bool n2) ∧ w'.cell? ⟨g + 1, 1, none⟩ = some (.int .i8 s2) ∧ w'.cell? ⟨g + 1, 2, none⟩ = some (.int .u64 c2)) (first | exact ⟨k0, k1, k2, k3, k4, k5⟩ | exact ⟨z6_0, z6_1, z6_2, z6_3, z6_4, z6_5⟩ | exact ⟨z8_0, z8_1, z8_2, z8_3, z8_4, z8_5⟩) (first
    | (go_at_call 56; (with_reducible refine (H_hsd.out _).mono ?_); rintro e y5_ ⟨rfl, r⟩; have hy : Fresh w1 y5_ := (by first | exact r | exact r.of_drew | exact r.of_drewN); have z6_0 := cell_fresh k0 hy; have z6_1 := cell_fresh k1 hy; have z6_2 := cell_fresh k2 hy; have z6_3 := cell_fresh k3 hy; have z6_4 := cell_fresh k4 hy; have z6_5 := cell_fresh k5 hy; have fy5_ := hy; have H_fy5_ := Lib.hid fy5_; clear r hy fy5_)
    | (go_at_call 56; (with_reducible refine (H_hse.out _).mono ?_); rintro e y7_ ⟨rfl, r⟩; have hy : Fresh y5_ y7_ := r; have z8_0 := cell_fresh z6_0 hy; have z8_1 := cell_fresh z6_1 hy; have z8_2 := cell_fresh z6_2 hy; have z8_3 := cell_fresh z6_3 hy; have z8_4 := cell_fresh z6_4 hy; have z8_5 := cell_fresh z6_5 hy; have fy7_ := fresh_trans H_fy5_.out hy; have H_fy7_ := Lib.hid fy7_; clear r hy fy7_))
  have Fy7_ := H_fy7_.out
  have H_Fy7_ := Lib.hid Fy7_
  clear Fy7_
  go_wp2_with (fail)
  go_region_held3 (fun (w' : World) => w'.cell? ⟨g, 0, none⟩ = some (.bool n1) ∧ w'.cell? ⟨g, 1, none⟩ = some (.int .i8 s1) ∧ w'.cell? ⟨g, 2, none⟩ = some (.int .u64 c1) ∧ w'.cell? ⟨g + 1, 0, none⟩ = some (.bool n2) ∧ w'.cell? ⟨g + 1, 1, none⟩ = some (.int .i8 s2) ∧ w'.cell? ⟨g + 1, 2, none⟩ = some (.int .u64 c2)) (first | exact ⟨z8_0, z8_1, z8_2, z8_3, z8_4, z8_5⟩ | exact ⟨z10_0, z10_1, z10_2, z10_3, z10_4, z10_5⟩ | exact ⟨z12_0, z12_1, z12_2, z12_3, z12_4, z12_5⟩) (first
    | (go_at_call 56; (with_reducible refine (H_hsd.out _).mono ?_); rintro e y9_ ⟨rfl, r⟩; have hy : Fresh y7_ y9_ := (by first | exact r | exact r.of_drew | exact r.of_drewN); have z10_0 := cell_fresh z8_0 hy; have z10_1 := cell_fresh z8_1 hy; have z10_2 := cell_fresh z8_2 hy; have z10_3 := cell_fresh z8_3 hy; have z10_4 := cell_fresh z8_4 hy; have z10_5 := cell_fresh z8_5 hy; have fy9_ := hy; have H_fy9_ := Lib.hid fy9_; clear r hy fy9_)
    | (go_at_call 56; (with_reducible refine (H_hse.out _).mono ?_); rintro e y11_ ⟨rfl, r⟩; have hy : Fresh y9_ y11_ := r; have z12_0 := cell_fresh z10_0 hy; have z12_1 := cell_fresh z10_1 hy; have z12_2 := cell_fresh z10_2 hy; have z12_3 := cell_fresh z10_3 hy; have z12_4 := cell_fresh z10_4 hy; have z12_5 := cell_fresh z10_5 hy; have fy11_ := fresh_trans H_fy9_.out hy; have H_fy11_ := Lib.hid fy11_; clear r hy fy11_))
  have Fy11_ := fresh_trans H_Fy7_.out H_fy11_.out
  have H_Fy11_ := Lib.hid Fy11_
  clear Fy11_
  go_wp2_with (fail)
  go_ret
  exact ⟨rfl, fresh_trans H_hf.out H_Fy11_.out⟩

set_option maxRecDepth 20000 in
set_option maxHeartbeats 4000000 in
theorem Cmp_eq (n1 n2 : Bool) (c1 s1 c2 s2 : Nat) (w : World) (hG : Glob w) (hP : Pow10s w) (hE : ErrIs w) (hs1 : s1 ≤ 19) (hs2 : s2 ≤ 19) (hc1 : c1 ≤ 9999999999999999999) (hc2 : c2 ≤ 9999999999999999999) (h1 : n1 = true → 0 < c1) (h2 : n2 = true → 0 < c2) (hsg : gsign n1 c1 = gsign n2 c2) :
    Calls Tryz.prog 37 #[gd n1 s1 c1, gd n2 s2 c2] w (VRet w (.int .i64 (zcmp n1 c1 s1 n2 c2 s2))) := by
  rw [zcmp_eq h1 h2 hsg]
  have hsd := fun W => Sign_any n1 s1 c1 W
  have hse := fun W => Sign_any n2 s2 c2 W
  have hcf := fun W (hW : Fresh w W) => cmpFint_any n1 n2 c1 s1 c2 s2 W (hP.fresh hW) (hE.fresh hW) hs1 hs2 hc1 hc2 hsg
  have hcb := fun W (hW : Fresh w W) => cmpBint_any n1 n2 c1 s1 c2 s2 W (hG.fresh hW) (hP.fresh hW) hs1 hs2 hc1 hc2 hsg
  generalize cmpA (gsign n1 c1) (c1 * 10 ^ (s2 - s1)) (c2 * 10 ^ (s1 - s2)) = r at *
  rw [← hsg] at hse
  generalize gsign n1 c1 = a at *
  clear hsg
  have t1 : decide (a < a) = false := by simp
  obtain ⟨g, hg⟩ : ∃ g, g = w.heap.size := ⟨_, rfl⟩
  have bx := boxes2 w #[.bool n1, .int .i8 s1, .int .u64 c1] #[.bool n2, .int .i8 s2, .int .u64 c2] 65 65 g hg
  have H_bx := Lib.hid bx; clear bx
  have H_hsd := Lib.hid hsd; clear hsd
  have H_hse := Lib.hid hse; clear hse
  have H_hcf := Lib.hid hcf; clear hcf
  have H_hcb := Lib.hid hcb; clear hcb
  have H_hG := Lib.hid hG; clear hG
  have H_hP := Lib.hid hP; clear hP
  have H_hE := Lib.hid hE; clear hE
  have H_h1 := Lib.hid h1; clear h1
  have H_h2 := Lib.hid h2; clear h2
  go_enter Tryz.func37, Tryz.ntmps37
  go_wp2_with (fail)
  generalize hw1 : (w.alloc _).alloc _ = w1
  rw [← hg]
  obtain ⟨b1, b2, hf⟩ := H_bx.out w1 hw1
  have k0 := row_cell b1 0
  have k1 := row_cell b1 1
  have k2 := row_cell b1 2
  simp at k0 k1 k2
  have k3 := row_cell b2 0
  have k4 := row_cell b2 1
  have k5 := row_cell b2 2
  simp at k3 k4 k5
  have H_b1 := Lib.hid b1; clear b1
  have H_b2 := Lib.hid b2; clear b2
  have H_hf := Lib.hid hf; clear hf
  have H_hw1 := Lib.hid hw1; clear hw1
  have H_hg := Lib.hid hg; clear hg
  go_region_held3 (fun (w' : World) => w'.cell? ⟨g, 0, none⟩ = some (.bool n1) ∧ w'.cell? ⟨g, 1, none⟩ = some (.int .i8 s1) ∧ w'.cell? ⟨g, 2, none⟩ = some (.int .u64 c1) ∧ w'.cell? ⟨g + 1, 0, none⟩ = some (.bool n2) ∧ w'.cell? ⟨g + 1, 1, none⟩ = some (.int .i8 s2) ∧ w'.cell? ⟨g + 1, 2, none⟩ = some (.int .u64 c2)) (first | exact ⟨k0, k1, k2, k3, k4, k5⟩ | exact ⟨z14_0, z14_1, z14_2, z14_3, z14_4, z14_5⟩ | exact ⟨z16_0, z16_1, z16_2, z16_3, z16_4, z16_5⟩) (first
    | (go_at_call 56; (with_reducible refine (H_hsd.out _).mono ?_); rintro e y13_ ⟨rfl, r⟩; have hy : Fresh w1 y13_ := (by first | exact r | exact r.of_drew | exact r.of_drewN); have z14_0 := cell_fresh k0 hy; have z14_1 := cell_fresh k1 hy; have z14_2 := cell_fresh k2 hy; have z14_3 := cell_fresh k3 hy; have z14_4 := cell_fresh k4 hy; have z14_5 := cell_fresh k5 hy; have fy13_ := hy; have H_fy13_ := Lib.hid fy13_; clear r hy fy13_)
    | (go_at_call 56; (with_reducible refine (H_hse.out _).mono ?_); rintro e y15_ ⟨rfl, r⟩; have hy : Fresh y13_ y15_ := r; have z16_0 := cell_fresh z14_0 hy; have z16_1 := cell_fresh z14_1 hy; have z16_2 := cell_fresh z14_2 hy; have z16_3 := cell_fresh z14_3 hy; have z16_4 := cell_fresh z14_4 hy; have z16_5 := cell_fresh z14_5 hy; have fy15_ := fresh_trans H_fy13_.out hy; have H_fy15_ := Lib.hid fy15_; clear r hy fy15_))
  have Fy15_ := H_fy15_.out
  have H_Fy15_ := Lib.hid Fy15_
  clear Fy15_
  go_wp2_with (fail)
  go_region_held3 (fun (w' : World) => w'.cell? ⟨g, 0, none⟩ = some (.bool n1) ∧ w'.cell? ⟨g, 1, none⟩ = some (.int .i8 s1) ∧ w'.cell? ⟨g, 2, none⟩ = some (.int .u64 c1) ∧ w'.cell? ⟨g + 1, 0, none⟩ = some (.bool n2) ∧ w'.cell? ⟨g + 1, 1, none⟩ = some (.int .i8 s2) ∧ w'.cell? ⟨g + 1, 2, none⟩ = some (.int .u64 c2)) (first | exact ⟨z16_0, z16_1, z16_2, z16_3, z16_4, z16_5⟩ | exact ⟨z18_0, z18_1, z18_2, z18_3, z18_4, z18_5⟩ | exact ⟨z20_0, z20_1, z20_2, z20_3, z20_4, z20_5⟩) (first
    | (go_at_call 56; (with_reducible refine (H_hsd.out _).mono ?_); rintro e y17_ ⟨rfl, r⟩; have hy : Fresh y15_ y17_ := (by first | exact r | exact r.of_drew | exact r.of_drewN); have z18_0 := cell_fresh z16_0 hy; have z18_1 := cell_fresh z16_1 hy; have z18_2 := cell_fresh z16_2 hy; have z18_3 := cell_fresh z16_3 hy; have z18_4 := cell_fresh z16_4 hy; have z18_5 := cell_fresh z16_5 hy; have fy17_ := hy; have H_fy17_ := Lib.hid fy17_; clear r hy fy17_)
    | (go_at_call 56; (with_reducible refine (H_hse.out _).mono ?_); rintro e y19_ ⟨rfl, r⟩; have hy : Fresh y17_ y19_ := r; have z20_0 := cell_fresh z18_0 hy; have z20_1 := cell_fresh z18_1 hy; have z20_2 := cell_fresh z18_2 hy; have z20_3 := cell_fresh z18_3 hy; have z20_4 := cell_fresh z18_4 hy; have z20_5 := cell_fresh z18_5 hy; have fy19_ := fresh_trans H_fy17_.out hy; have H_fy19_ := Lib.hid fy19_; clear r hy fy19_))
  have Fy19_ := fresh_trans H_Fy15_.out H_fy19_.out
  have H_Fy19_ := Lib.hid Fy19_
  clear Fy19_
  go_wp2_with (fail)
  refine (H_hcf.out _ (fresh_trans H_hf.out H_Fy19_.out)).mono ?_
  rintro e wb ⟨fb, rfl | ⟨ae, rfl⟩⟩
  · have H_fb := Lib.hid (fresh_trans (fresh_trans H_hf.out H_Fy19_.out) fb)
    clear fb
    go_wp2_with (fail)
    go_ret
    exact ⟨rfl, H_fb.out⟩
  · have v0 := cell_fresh z20_0 fb
    have v1 := cell_fresh z20_1 fb
    have v2 := cell_fresh z20_2 fb
    have v3 := cell_fresh z20_3 fb
    have v4 := cell_fresh z20_4 fb
    have v5 := cell_fresh z20_5 fb
    have gb := fresh_trans (fresh_trans H_hf.out H_Fy19_.out) fb
    have H_gb := Lib.hid gb
    clear fb gb
    go_wp2_with (fail)
    refine (H_hcb.out _ H_gb.out).mono ?_
    rintro e wc ⟨rfl, fc⟩
    have H_fc := Lib.hid fc
    clear fc
    go_wp2_with (fail)
    go_ret
    exact ⟨rfl, fresh_trans H_gb.out H_fc.out⟩

theorem Cmp_any (n1 n2 : Bool) (c1 s1 c2 s2 : Nat) (w : World) (hG : Glob w) (hP : Pow10s w) (hE : ErrIs w) (hs1 : s1 ≤ 19) (hs2 : s2 ≤ 19) (hc1 : c1 ≤ 9999999999999999999) (hc2 : c2 ≤ 9999999999999999999) (h1 : n1 = true → 0 < c1) (h2 : n2 = true → 0 < c2) :
    Calls Tryz.prog 37 #[gd n1 s1 c1, gd n2 s2 c2] w (VRet w (.int .i64 (zcmp n1 c1 s1 n2 c2 s2))) := by
  rcases Int.lt_trichotomy (gsign n1 c1) (gsign n2 c2) with h | h | h
  · exact Cmp_lt n1 n2 c1 s1 c2 s2 w hG hP hE hs1 hs2 hc1 hc2 h1 h2 h
  · exact Cmp_eq n1 n2 c1 s1 c2 s2 w hG hP hE hs1 hs2 hc1 hc2 h1 h2 h
  · exact Cmp_gt n1 n2 c1 s1 c2 s2 w hG hP hE hs1 hs2 hc1 hc2 h1 h2 h

end Go.Proofs.YtecadiflbfpofaaGreatDoor

/- govalues' decimals in the order of all forms: CmpTotal. -/
namespace Go.Proofs.YtecadiflbfpofaaGreatDoor
open Go.RowKit

set_option maxRecDepth 20000 in
set_option maxHeartbeats 4000000 in
theorem CmpTotal_m (n1 n2 : Bool) (c1 s1 c2 s2 : Nat) (w : World) (hG : Glob w) (hP : Pow10s w) (hE : ErrIs w) (hs1 : s1 ≤ 19) (hs2 : s2 ≤ 19) (hc1 : c1 ≤ 9999999999999999999) (hc2 : c2 ≤ 9999999999999999999) (h1 : n1 = true → 0 < c1) (h2 : n2 = true → 0 < c2) (hz : zcmp n1 c1 s1 n2 c2 s2 = -1) :
    Calls Tryz.prog 59 #[gd n1 s1 c1, gd n2 s2 c2] w (VRet w (.int .i64 (ctot (zcmp n1 c1 s1 n2 c2 s2) s1 s2))) := by
  have hc := fun W (hW : Fresh w W) => Cmp_any n1 n2 c1 s1 c2 s2 W (hG.fresh hW) (hP.fresh hW) (hE.fresh hW) hs1 hs2 hc1 hc2 h1 h2
  rw [hz] at hc ⊢
  rw [show ctot (-1) s1 s2 = -1 from rfl]
  clear hz
  obtain ⟨g, hg⟩ : ∃ g, g = w.heap.size := ⟨_, rfl⟩
  have bx := boxes2 w #[.bool n1, .int .i8 s1, .int .u64 c1] #[.bool n2, .int .i8 s2, .int .u64 c2] 65 65 g hg
  have H_bx := Lib.hid bx; clear bx
  have H_hc := Lib.hid hc; clear hc
  have H_hG := Lib.hid hG; clear hG
  have H_hP := Lib.hid hP; clear hP
  have H_hE := Lib.hid hE; clear hE
  have H_h1 := Lib.hid h1; clear h1
  have H_h2 := Lib.hid h2; clear h2
  go_enter Tryz.func59, Tryz.ntmps59
  go_wp2_with (fail)
  generalize hw1 : (w.alloc _).alloc _ = w1
  rw [← hg]
  obtain ⟨b1, b2, hf⟩ := H_bx.out w1 hw1
  have k0 := row_cell b1 0
  have k1 := row_cell b1 1
  have k2 := row_cell b1 2
  simp at k0 k1 k2
  have k3 := row_cell b2 0
  have k4 := row_cell b2 1
  have k5 := row_cell b2 2
  simp at k3 k4 k5
  have H_b1 := Lib.hid b1; clear b1
  have H_b2 := Lib.hid b2; clear b2
  have H_hf := Lib.hid hf; clear hf
  have H_hw1 := Lib.hid hw1; clear hw1
  have H_hg := Lib.hid hg; clear hg
  refine (H_hc.out _ H_hf.out).mono ?_
  rintro e w2 ⟨rfl, f2⟩
  have H_f2 := Lib.hid f2
  clear f2
  go_wp2_with (fail)
  go_ret
  exact ⟨rfl, fresh_trans H_hf.out H_f2.out⟩

set_option maxRecDepth 20000 in
set_option maxHeartbeats 4000000 in
theorem CmpTotal_p (n1 n2 : Bool) (c1 s1 c2 s2 : Nat) (w : World) (hG : Glob w) (hP : Pow10s w) (hE : ErrIs w) (hs1 : s1 ≤ 19) (hs2 : s2 ≤ 19) (hc1 : c1 ≤ 9999999999999999999) (hc2 : c2 ≤ 9999999999999999999) (h1 : n1 = true → 0 < c1) (h2 : n2 = true → 0 < c2) (hz : zcmp n1 c1 s1 n2 c2 s2 = 1) :
    Calls Tryz.prog 59 #[gd n1 s1 c1, gd n2 s2 c2] w (VRet w (.int .i64 (ctot (zcmp n1 c1 s1 n2 c2 s2) s1 s2))) := by
  have hc := fun W (hW : Fresh w W) => Cmp_any n1 n2 c1 s1 c2 s2 W (hG.fresh hW) (hP.fresh hW) (hE.fresh hW) hs1 hs2 hc1 hc2 h1 h2
  rw [hz] at hc ⊢
  rw [show ctot 1 s1 s2 = 1 from rfl]
  clear hz
  obtain ⟨g, hg⟩ : ∃ g, g = w.heap.size := ⟨_, rfl⟩
  have bx := boxes2 w #[.bool n1, .int .i8 s1, .int .u64 c1] #[.bool n2, .int .i8 s2, .int .u64 c2] 65 65 g hg
  have H_bx := Lib.hid bx; clear bx
  have H_hc := Lib.hid hc; clear hc
  have H_hG := Lib.hid hG; clear hG
  have H_hP := Lib.hid hP; clear hP
  have H_hE := Lib.hid hE; clear hE
  have H_h1 := Lib.hid h1; clear h1
  have H_h2 := Lib.hid h2; clear h2
  go_enter Tryz.func59, Tryz.ntmps59
  go_wp2_with (fail)
  generalize hw1 : (w.alloc _).alloc _ = w1
  rw [← hg]
  obtain ⟨b1, b2, hf⟩ := H_bx.out w1 hw1
  have k0 := row_cell b1 0
  have k1 := row_cell b1 1
  have k2 := row_cell b1 2
  simp at k0 k1 k2
  have k3 := row_cell b2 0
  have k4 := row_cell b2 1
  have k5 := row_cell b2 2
  simp at k3 k4 k5
  have H_b1 := Lib.hid b1; clear b1
  have H_b2 := Lib.hid b2; clear b2
  have H_hf := Lib.hid hf; clear hf
  have H_hw1 := Lib.hid hw1; clear hw1
  have H_hg := Lib.hid hg; clear hg
  refine (H_hc.out _ H_hf.out).mono ?_
  rintro e w2 ⟨rfl, f2⟩
  have H_f2 := Lib.hid f2
  clear f2
  go_wp2_with (fail)
  go_ret
  exact ⟨rfl, fresh_trans H_hf.out H_f2.out⟩

set_option maxRecDepth 20000 in
set_option maxHeartbeats 4000000 in
theorem CmpTotal_g (n1 n2 : Bool) (c1 s1 c2 s2 : Nat) (w : World) (hG : Glob w) (hP : Pow10s w) (hE : ErrIs w) (hs1 : s1 ≤ 19) (hs2 : s2 ≤ 19) (hc1 : c1 ≤ 9999999999999999999) (hc2 : c2 ≤ 9999999999999999999) (h1 : n1 = true → 0 < c1) (h2 : n2 = true → 0 < c2) (hz : zcmp n1 c1 s1 n2 c2 s2 = 0 ∧ s2 < s1) :
    Calls Tryz.prog 59 #[gd n1 s1 c1, gd n2 s2 c2] w (VRet w (.int .i64 (ctot (zcmp n1 c1 s1 n2 c2 s2) s1 s2))) := by
  have hc := fun W (hW : Fresh w W) => Cmp_any n1 n2 c1 s1 c2 s2 W (hG.fresh hW) (hP.fresh hW) (hE.fresh hW) hs1 hs2 hc1 hc2 h1 h2
  obtain ⟨hz, hlt⟩ := hz
  rw [hz] at hc ⊢
  rw [show ctot 0 s1 s2 = -1 by unfold ctot; rw [if_neg (by omega), if_neg (by omega), if_pos hlt]]
  have t1 : decide ((s2 : Int) < (s1 : Int)) = true := by simp; omega
  clear hz
  obtain ⟨g, hg⟩ : ∃ g, g = w.heap.size := ⟨_, rfl⟩
  have bx := boxes2 w #[.bool n1, .int .i8 s1, .int .u64 c1] #[.bool n2, .int .i8 s2, .int .u64 c2] 65 65 g hg
  have H_bx := Lib.hid bx; clear bx
  have H_hc := Lib.hid hc; clear hc
  have H_hG := Lib.hid hG; clear hG
  have H_hP := Lib.hid hP; clear hP
  have H_hE := Lib.hid hE; clear hE
  have H_h1 := Lib.hid h1; clear h1
  have H_h2 := Lib.hid h2; clear h2
  go_enter Tryz.func59, Tryz.ntmps59
  go_wp2_with (fail)
  generalize hw1 : (w.alloc _).alloc _ = w1
  rw [← hg]
  obtain ⟨b1, b2, hf⟩ := H_bx.out w1 hw1
  have k0 := row_cell b1 0
  have k1 := row_cell b1 1
  have k2 := row_cell b1 2
  simp at k0 k1 k2
  have k3 := row_cell b2 0
  have k4 := row_cell b2 1
  have k5 := row_cell b2 2
  simp at k3 k4 k5
  have H_b1 := Lib.hid b1; clear b1
  have H_b2 := Lib.hid b2; clear b2
  have H_hf := Lib.hid hf; clear hf
  have H_hw1 := Lib.hid hw1; clear hw1
  have H_hg := Lib.hid hg; clear hg
  refine (H_hc.out _ H_hf.out).mono ?_
  rintro e w2 ⟨rfl, f2⟩
  have m0 := cell_fresh k0 f2
  have m1 := cell_fresh k1 f2
  have m2 := cell_fresh k2 f2
  have m3 := cell_fresh k3 f2
  have m4 := cell_fresh k4 f2
  have m5 := cell_fresh k5 f2
  clear k0 k1 k2 k3 k4 k5
  have H_f2 := Lib.hid f2
  clear f2
  go_wp2_with (fail)
  go_region_held3 (fun (w' : World) => w'.cell? ⟨g, 0, none⟩ = some (.bool n1) ∧ w'.cell? ⟨g, 1, none⟩ = some (.int .i8 s1) ∧ w'.cell? ⟨g, 2, none⟩ = some (.int .u64 c1) ∧ w'.cell? ⟨g + 1, 0, none⟩ = some (.bool n2) ∧ w'.cell? ⟨g + 1, 1, none⟩ = some (.int .i8 s2) ∧ w'.cell? ⟨g + 1, 2, none⟩ = some (.int .u64 c2)) (first | exact ⟨m0, m1, m2, m3, m4, m5⟩ | exact ⟨z22_0, z22_1, z22_2, z22_3, z22_4, z22_5⟩ | exact ⟨z24_0, z24_1, z24_2, z24_3, z24_4, z24_5⟩) (first
    | (go_at_call 78; (with_reducible refine (Scale_any n1 s1 c1 _ hs1).mono ?_); rintro e y21_ ⟨rfl, r⟩; have hy : Fresh w2 y21_ := (by first | exact r | exact r.of_drew | exact r.of_drewN); have z22_0 := cell_fresh m0 hy; have z22_1 := cell_fresh m1 hy; have z22_2 := cell_fresh m2 hy; have z22_3 := cell_fresh m3 hy; have z22_4 := cell_fresh m4 hy; have z22_5 := cell_fresh m5 hy; have fy21_ := hy; have H_fy21_ := Lib.hid fy21_; clear r hy fy21_)
    | (go_at_call 78; (with_reducible refine (Scale_any n2 s2 c2 _ hs2).mono ?_); rintro e y23_ ⟨rfl, r⟩; have hy : Fresh y21_ y23_ := r; have z24_0 := cell_fresh z22_0 hy; have z24_1 := cell_fresh z22_1 hy; have z24_2 := cell_fresh z22_2 hy; have z24_3 := cell_fresh z22_3 hy; have z24_4 := cell_fresh z22_4 hy; have z24_5 := cell_fresh z22_5 hy; have fy23_ := fresh_trans H_fy21_.out hy; have H_fy23_ := Lib.hid fy23_; clear r hy fy23_))
  have Fy23_ := H_fy23_.out
  have H_Fy23_ := Lib.hid Fy23_
  clear Fy23_
  go_wp2_with (fail)
  go_ret
  exact ⟨rfl, fresh_trans (fresh_trans H_hf.out H_f2.out) H_Fy23_.out⟩

set_option maxRecDepth 20000 in
set_option maxHeartbeats 4000000 in
theorem CmpTotal_l (n1 n2 : Bool) (c1 s1 c2 s2 : Nat) (w : World) (hG : Glob w) (hP : Pow10s w) (hE : ErrIs w) (hs1 : s1 ≤ 19) (hs2 : s2 ≤ 19) (hc1 : c1 ≤ 9999999999999999999) (hc2 : c2 ≤ 9999999999999999999) (h1 : n1 = true → 0 < c1) (h2 : n2 = true → 0 < c2) (hz : zcmp n1 c1 s1 n2 c2 s2 = 0 ∧ s1 < s2) :
    Calls Tryz.prog 59 #[gd n1 s1 c1, gd n2 s2 c2] w (VRet w (.int .i64 (ctot (zcmp n1 c1 s1 n2 c2 s2) s1 s2))) := by
  have hc := fun W (hW : Fresh w W) => Cmp_any n1 n2 c1 s1 c2 s2 W (hG.fresh hW) (hP.fresh hW) (hE.fresh hW) hs1 hs2 hc1 hc2 h1 h2
  obtain ⟨hz, hlt⟩ := hz
  rw [hz] at hc ⊢
  rw [show ctot 0 s1 s2 = 1 by unfold ctot; rw [if_neg (by omega), if_neg (by omega), if_neg (by omega), if_pos hlt]]
  have hn0 : ¬ s2 < s1 := by omega
  have t0 : decide ((s2 : Int) < (s1 : Int)) = false := by simp; omega
  have t1 : decide ((s1 : Int) < (s2 : Int)) = true := by simp; omega
  clear hz
  obtain ⟨g, hg⟩ : ∃ g, g = w.heap.size := ⟨_, rfl⟩
  have bx := boxes2 w #[.bool n1, .int .i8 s1, .int .u64 c1] #[.bool n2, .int .i8 s2, .int .u64 c2] 65 65 g hg
  have H_bx := Lib.hid bx; clear bx
  have H_hc := Lib.hid hc; clear hc
  have H_hG := Lib.hid hG; clear hG
  have H_hP := Lib.hid hP; clear hP
  have H_hE := Lib.hid hE; clear hE
  have H_h1 := Lib.hid h1; clear h1
  have H_h2 := Lib.hid h2; clear h2
  go_enter Tryz.func59, Tryz.ntmps59
  go_wp2_with (fail)
  generalize hw1 : (w.alloc _).alloc _ = w1
  rw [← hg]
  obtain ⟨b1, b2, hf⟩ := H_bx.out w1 hw1
  have k0 := row_cell b1 0
  have k1 := row_cell b1 1
  have k2 := row_cell b1 2
  simp at k0 k1 k2
  have k3 := row_cell b2 0
  have k4 := row_cell b2 1
  have k5 := row_cell b2 2
  simp at k3 k4 k5
  have H_b1 := Lib.hid b1; clear b1
  have H_b2 := Lib.hid b2; clear b2
  have H_hf := Lib.hid hf; clear hf
  have H_hw1 := Lib.hid hw1; clear hw1
  have H_hg := Lib.hid hg; clear hg
  refine (H_hc.out _ H_hf.out).mono ?_
  rintro e w2 ⟨rfl, f2⟩
  have m0 := cell_fresh k0 f2
  have m1 := cell_fresh k1 f2
  have m2 := cell_fresh k2 f2
  have m3 := cell_fresh k3 f2
  have m4 := cell_fresh k4 f2
  have m5 := cell_fresh k5 f2
  clear k0 k1 k2 k3 k4 k5
  have H_f2 := Lib.hid f2
  clear f2
  go_wp2_with (fail)
  go_region_held3 (fun (w' : World) => w'.cell? ⟨g, 0, none⟩ = some (.bool n1) ∧ w'.cell? ⟨g, 1, none⟩ = some (.int .i8 s1) ∧ w'.cell? ⟨g, 2, none⟩ = some (.int .u64 c1) ∧ w'.cell? ⟨g + 1, 0, none⟩ = some (.bool n2) ∧ w'.cell? ⟨g + 1, 1, none⟩ = some (.int .i8 s2) ∧ w'.cell? ⟨g + 1, 2, none⟩ = some (.int .u64 c2)) (first | exact ⟨m0, m1, m2, m3, m4, m5⟩ | exact ⟨z26_0, z26_1, z26_2, z26_3, z26_4, z26_5⟩ | exact ⟨z28_0, z28_1, z28_2, z28_3, z28_4, z28_5⟩) (first
    | (go_at_call 78; (with_reducible refine (Scale_any n1 s1 c1 _ hs1).mono ?_); rintro e y25_ ⟨rfl, r⟩; have hy : Fresh w2 y25_ := (by first | exact r | exact r.of_drew | exact r.of_drewN); have z26_0 := cell_fresh m0 hy; have z26_1 := cell_fresh m1 hy; have z26_2 := cell_fresh m2 hy; have z26_3 := cell_fresh m3 hy; have z26_4 := cell_fresh m4 hy; have z26_5 := cell_fresh m5 hy; have fy25_ := hy; have H_fy25_ := Lib.hid fy25_; clear r hy fy25_)
    | (go_at_call 78; (with_reducible refine (Scale_any n2 s2 c2 _ hs2).mono ?_); rintro e y27_ ⟨rfl, r⟩; have hy : Fresh y25_ y27_ := r; have z28_0 := cell_fresh z26_0 hy; have z28_1 := cell_fresh z26_1 hy; have z28_2 := cell_fresh z26_2 hy; have z28_3 := cell_fresh z26_3 hy; have z28_4 := cell_fresh z26_4 hy; have z28_5 := cell_fresh z26_5 hy; have fy27_ := fresh_trans H_fy25_.out hy; have H_fy27_ := Lib.hid fy27_; clear r hy fy27_))
  have Fy27_ := H_fy27_.out
  have H_Fy27_ := Lib.hid Fy27_
  clear Fy27_
  go_wp2_with (fail)
  go_region_held3 (fun (w' : World) => w'.cell? ⟨g, 0, none⟩ = some (.bool n1) ∧ w'.cell? ⟨g, 1, none⟩ = some (.int .i8 s1) ∧ w'.cell? ⟨g, 2, none⟩ = some (.int .u64 c1) ∧ w'.cell? ⟨g + 1, 0, none⟩ = some (.bool n2) ∧ w'.cell? ⟨g + 1, 1, none⟩ = some (.int .i8 s2) ∧ w'.cell? ⟨g + 1, 2, none⟩ = some (.int .u64 c2)) (first | exact ⟨z28_0, z28_1, z28_2, z28_3, z28_4, z28_5⟩ | exact ⟨z30_0, z30_1, z30_2, z30_3, z30_4, z30_5⟩ | exact ⟨z32_0, z32_1, z32_2, z32_3, z32_4, z32_5⟩) (first
    | (go_at_call 78; (with_reducible refine (Scale_any n1 s1 c1 _ hs1).mono ?_); rintro e y29_ ⟨rfl, r⟩; have hy : Fresh y27_ y29_ := (by first | exact r | exact r.of_drew | exact r.of_drewN); have z30_0 := cell_fresh z28_0 hy; have z30_1 := cell_fresh z28_1 hy; have z30_2 := cell_fresh z28_2 hy; have z30_3 := cell_fresh z28_3 hy; have z30_4 := cell_fresh z28_4 hy; have z30_5 := cell_fresh z28_5 hy; have fy29_ := hy; have H_fy29_ := Lib.hid fy29_; clear r hy fy29_)
    | (go_at_call 78; (with_reducible refine (Scale_any n2 s2 c2 _ hs2).mono ?_); rintro e y31_ ⟨rfl, r⟩; have hy : Fresh y29_ y31_ := r; have z32_0 := cell_fresh z30_0 hy; have z32_1 := cell_fresh z30_1 hy; have z32_2 := cell_fresh z30_2 hy; have z32_3 := cell_fresh z30_3 hy; have z32_4 := cell_fresh z30_4 hy; have z32_5 := cell_fresh z30_5 hy; have fy31_ := fresh_trans H_fy29_.out hy; have H_fy31_ := Lib.hid fy31_; clear r hy fy31_))
  have Fy31_ := fresh_trans H_Fy27_.out H_fy31_.out
  have H_Fy31_ := Lib.hid Fy31_
  clear Fy31_
  go_wp2_with (fail)
  go_ret
  exact ⟨rfl, fresh_trans (fresh_trans H_hf.out H_f2.out) H_Fy31_.out⟩

set_option maxRecDepth 20000 in
set_option maxHeartbeats 4000000 in
theorem CmpTotal_e (n1 n2 : Bool) (c1 s1 c2 s2 : Nat) (w : World) (hG : Glob w) (hP : Pow10s w) (hE : ErrIs w) (hs1 : s1 ≤ 19) (hs2 : s2 ≤ 19) (hc1 : c1 ≤ 9999999999999999999) (hc2 : c2 ≤ 9999999999999999999) (h1 : n1 = true → 0 < c1) (h2 : n2 = true → 0 < c2) (hz : zcmp n1 c1 s1 n2 c2 s2 = 0 ∧ s1 = s2) :
    Calls Tryz.prog 59 #[gd n1 s1 c1, gd n2 s2 c2] w (VRet w (.int .i64 (ctot (zcmp n1 c1 s1 n2 c2 s2) s1 s2))) := by
  have hc := fun W (hW : Fresh w W) => Cmp_any n1 n2 c1 s1 c2 s2 W (hG.fresh hW) (hP.fresh hW) (hE.fresh hW) hs1 hs2 hc1 hc2 h1 h2
  obtain ⟨hz, hlt⟩ := hz
  rw [hz] at hc ⊢
  subst hlt
  rw [show ctot 0 s1 s1 = 0 by unfold ctot; rw [if_neg (by omega), if_neg (by omega), if_neg (by omega), if_neg (by omega)]]
  have t1 : decide ((s1 : Int) < (s1 : Int)) = false := by simp
  clear hz
  obtain ⟨g, hg⟩ : ∃ g, g = w.heap.size := ⟨_, rfl⟩
  have bx := boxes2 w #[.bool n1, .int .i8 s1, .int .u64 c1] #[.bool n2, .int .i8 s1, .int .u64 c2] 65 65 g hg
  have H_bx := Lib.hid bx; clear bx
  have H_hc := Lib.hid hc; clear hc
  have H_hG := Lib.hid hG; clear hG
  have H_hP := Lib.hid hP; clear hP
  have H_hE := Lib.hid hE; clear hE
  have H_h1 := Lib.hid h1; clear h1
  have H_h2 := Lib.hid h2; clear h2
  go_enter Tryz.func59, Tryz.ntmps59
  go_wp2_with (fail)
  generalize hw1 : (w.alloc _).alloc _ = w1
  rw [← hg]
  obtain ⟨b1, b2, hf⟩ := H_bx.out w1 hw1
  have k0 := row_cell b1 0
  have k1 := row_cell b1 1
  have k2 := row_cell b1 2
  simp at k0 k1 k2
  have k3 := row_cell b2 0
  have k4 := row_cell b2 1
  have k5 := row_cell b2 2
  simp at k3 k4 k5
  have H_b1 := Lib.hid b1; clear b1
  have H_b2 := Lib.hid b2; clear b2
  have H_hf := Lib.hid hf; clear hf
  have H_hw1 := Lib.hid hw1; clear hw1
  have H_hg := Lib.hid hg; clear hg
  refine (H_hc.out _ H_hf.out).mono ?_
  rintro e w2 ⟨rfl, f2⟩
  have m0 := cell_fresh k0 f2
  have m1 := cell_fresh k1 f2
  have m2 := cell_fresh k2 f2
  have m3 := cell_fresh k3 f2
  have m4 := cell_fresh k4 f2
  have m5 := cell_fresh k5 f2
  clear k0 k1 k2 k3 k4 k5
  have H_f2 := Lib.hid f2
  clear f2
  go_wp2_with (fail)
  go_region_held3 (fun (w' : World) => w'.cell? ⟨g, 0, none⟩ = some (.bool n1) ∧ w'.cell? ⟨g, 1, none⟩ = some (.int .i8 s1) ∧ w'.cell? ⟨g, 2, none⟩ = some (.int .u64 c1) ∧ w'.cell? ⟨g + 1, 0, none⟩ = some (.bool n2) ∧ w'.cell? ⟨g + 1, 1, none⟩ = some (.int .i8 s1) ∧ w'.cell? ⟨g + 1, 2, none⟩ = some (.int .u64 c2)) (first | exact ⟨m0, m1, m2, m3, m4, m5⟩ | exact ⟨z34_0, z34_1, z34_2, z34_3, z34_4, z34_5⟩ | exact ⟨z36_0, z36_1, z36_2, z36_3, z36_4, z36_5⟩) (first
    | (go_at_call 78; (with_reducible refine (Scale_any n1 s1 c1 _ hs1).mono ?_); rintro e y33_ ⟨rfl, r⟩; have hy : Fresh w2 y33_ := (by first | exact r | exact r.of_drew | exact r.of_drewN); have z34_0 := cell_fresh m0 hy; have z34_1 := cell_fresh m1 hy; have z34_2 := cell_fresh m2 hy; have z34_3 := cell_fresh m3 hy; have z34_4 := cell_fresh m4 hy; have z34_5 := cell_fresh m5 hy; have fy33_ := hy; have H_fy33_ := Lib.hid fy33_; clear r hy fy33_)
    | (go_at_call 78; (with_reducible refine (Scale_any n2 s1 c2 _ hs2).mono ?_); rintro e y35_ ⟨rfl, r⟩; have hy : Fresh y33_ y35_ := r; have z36_0 := cell_fresh z34_0 hy; have z36_1 := cell_fresh z34_1 hy; have z36_2 := cell_fresh z34_2 hy; have z36_3 := cell_fresh z34_3 hy; have z36_4 := cell_fresh z34_4 hy; have z36_5 := cell_fresh z34_5 hy; have fy35_ := fresh_trans H_fy33_.out hy; have H_fy35_ := Lib.hid fy35_; clear r hy fy35_))
  have Fy35_ := H_fy35_.out
  have H_Fy35_ := Lib.hid Fy35_
  clear Fy35_
  go_wp2_with (fail)
  go_region_held3 (fun (w' : World) => w'.cell? ⟨g, 0, none⟩ = some (.bool n1) ∧ w'.cell? ⟨g, 1, none⟩ = some (.int .i8 s1) ∧ w'.cell? ⟨g, 2, none⟩ = some (.int .u64 c1) ∧ w'.cell? ⟨g + 1, 0, none⟩ = some (.bool n2) ∧ w'.cell? ⟨g + 1, 1, none⟩ = some (.int .i8 s1) ∧ w'.cell? ⟨g + 1, 2, none⟩ = some (.int .u64 c2)) (first | exact ⟨z36_0, z36_1, z36_2, z36_3, z36_4, z36_5⟩ | exact ⟨z38_0, z38_1, z38_2, z38_3, z38_4, z38_5⟩ | exact ⟨z40_0, z40_1, z40_2, z40_3, z40_4, z40_5⟩) (first
    | (go_at_call 78; (with_reducible refine (Scale_any n1 s1 c1 _ hs1).mono ?_); rintro e y37_ ⟨rfl, r⟩; have hy : Fresh y35_ y37_ := (by first | exact r | exact r.of_drew | exact r.of_drewN); have z38_0 := cell_fresh z36_0 hy; have z38_1 := cell_fresh z36_1 hy; have z38_2 := cell_fresh z36_2 hy; have z38_3 := cell_fresh z36_3 hy; have z38_4 := cell_fresh z36_4 hy; have z38_5 := cell_fresh z36_5 hy; have fy37_ := hy; have H_fy37_ := Lib.hid fy37_; clear r hy fy37_)
    | (go_at_call 78; (with_reducible refine (Scale_any n2 s1 c2 _ hs2).mono ?_); rintro e y39_ ⟨rfl, r⟩; have hy : Fresh y37_ y39_ := r; have z40_0 := cell_fresh z38_0 hy; have z40_1 := cell_fresh z38_1 hy; have z40_2 := cell_fresh z38_2 hy; have z40_3 := cell_fresh z38_3 hy; have z40_4 := cell_fresh z38_4 hy; have z40_5 := cell_fresh z38_5 hy; have fy39_ := fresh_trans H_fy37_.out hy; have H_fy39_ := Lib.hid fy39_; clear r hy fy39_))
  have Fy39_ := fresh_trans H_Fy35_.out H_fy39_.out
  have H_Fy39_ := Lib.hid Fy39_
  clear Fy39_
  go_wp2_with (fail)
  go_ret
  exact ⟨rfl, fresh_trans (fresh_trans H_hf.out H_f2.out) H_Fy39_.out⟩

theorem CmpTotal_any (n1 n2 : Bool) (c1 s1 c2 s2 : Nat) (w : World) (hG : Glob w) (hP : Pow10s w) (hE : ErrIs w) (hs1 : s1 ≤ 19) (hs2 : s2 ≤ 19) (hc1 : c1 ≤ 9999999999999999999) (hc2 : c2 ≤ 9999999999999999999) (h1 : n1 = true → 0 < c1) (h2 : n2 = true → 0 < c2) :
    Calls Tryz.prog 59 #[gd n1 s1 c1, gd n2 s2 c2] w (VRet w (.int .i64 (ctot (zcmp n1 c1 s1 n2 c2 s2) s1 s2))) := by
  rcases zcmp_cases n1 c1 s1 n2 c2 s2 with h | h | h
  · exact CmpTotal_m n1 n2 c1 s1 c2 s2 w hG hP hE hs1 hs2 hc1 hc2 h1 h2 h
  · exact CmpTotal_p n1 n2 c1 s1 c2 s2 w hG hP hE hs1 hs2 hc1 hc2 h1 h2 h
  · rcases Nat.lt_trichotomy s1 s2 with k | k | k
    · exact CmpTotal_l n1 n2 c1 s1 c2 s2 w hG hP hE hs1 hs2 hc1 hc2 h1 h2 ⟨h, k⟩
    · exact CmpTotal_e n1 n2 c1 s1 c2 s2 w hG hP hE hs1 hs2 hc1 hc2 h1 h2 ⟨h, k⟩
    · exact CmpTotal_g n1 n2 c1 s1 c2 s2 w hG hP hE hs1 hs2 hc1 hc2 h1 h2 ⟨h, k⟩

end Go.Proofs.YtecadiflbfpofaaGreatDoor

/- The reference's order of all forms: gvTotal. -/
namespace Go.Proofs.YtecadiflbfpofaaGreatDoor
open Go.RowKit

set_option maxRecDepth 20000 in
set_option maxHeartbeats 4000000 in
theorem gvTotal_m (n1 n2 : Bool) (c1 s1 c2 s2 : Nat) (w : World) (hs1 : s1 ≤ 19) (hs2 : s2 ≤ 19) (hc1 : c1 ≤ 9999999999999999999) (hc2 : c2 ≤ 9999999999999999999) (hz : zcmp n1 c1 s1 n2 c2 s2 = -1) :
    Calls Tryz.prog 26 #[fx n1 c1 s1, fx n2 c2 s2] w (VRet w (.int .i64 (ctot (zcmp n1 c1 s1 n2 c2 s2) s1 s2))) := by
  have hcmp := fun (xa xb : Value) (W : World) ha hb => FracCmp_any xa xb (zfix n1 c1) (zfix n2 c2) (10 ^ s1) (10 ^ s2) W ha hb (zfix_spow hc1) (zfix_spow hc2) (ten_spow hs1) (ten_spow hs2)
  change ∀ (xa xb : Value) (W : World) (ha : _) (hb : _), Calls Tryz.prog 15 #[xa, xb] W (IRet W (zcmp n1 c1 s1 n2 c2 s2)) at hcmp
  rw [hz] at hcmp ⊢
  rw [show ctot (-1) s1 s2 = -1 from rfl]
  clear hz
  obtain ⟨g, hg⟩ : ∃ g, g = w.heap.size := ⟨_, rfl⟩
  have bx := boxes2 w #[.bool n1, .int .u64 c1, .int .i64 s1] #[.bool n2, .int .u64 c2, .int .i64 s2] 24 24 g hg
  have H_bx := Lib.hid bx; clear bx
  have H_hcmp := Lib.hid hcmp; clear hcmp
  go_enter Tryz.func26, Tryz.ntmps26
  go_wp2_with (fail)
  generalize hw1 : (w.alloc _).alloc _ = w1
  rw [← hg]
  obtain ⟨b1, b2, hf⟩ := H_bx.out w1 hw1
  have k0 := row_cell b1 0
  have k1 := row_cell b1 1
  have k2 := row_cell b1 2
  simp at k0 k1 k2
  have k3 := row_cell b2 0
  have k4 := row_cell b2 1
  have k5 := row_cell b2 2
  simp at k3 k4 k5
  have H_b1 := Lib.hid b1; clear b1
  have H_b2 := Lib.hid b2; clear b2
  have H_hf := Lib.hid hf; clear hf
  have H_hw1 := Lib.hid hw1; clear hw1
  have H_hg := Lib.hid hg; clear hg
  go_region_held3 (fun (w' : World) => w'.cell? ⟨g, 0, none⟩ = some (.bool n1) ∧ w'.cell? ⟨g, 1, none⟩ = some (.int .u64 c1) ∧ w'.cell? ⟨g, 2, none⟩ = some (.int .i64 s1) ∧ w'.cell? ⟨g + 1, 0, none⟩ = some (.bool n2) ∧ w'.cell? ⟨g + 1, 1, none⟩ = some (.int .u64 c2) ∧ w'.cell? ⟨g + 1, 2, none⟩ = some (.int .i64 s2)) (first | exact ⟨k0, k1, k2, k3, k4, k5⟩ | exact ⟨m0, m1, m2, m3, m4, m5⟩ | exact ⟨o0, o1, o2, o3, o4, o5⟩ | exact ⟨u0, u1, u2, u3, u4, u5⟩) (first
    | (go_at_call 10; (with_reducible refine (FixNum_any n1 c1 s1 _ hs1 hc1).mono ?_); rintro e w2 ⟨x1, rfl, hx1, r⟩; have hy : Fresh w1 w2 := (by first | exact r | exact r.of_drew | exact r.of_drewN); have m0 := cell_fresh k0 hy; have m1 := cell_fresh k1 hy; have m2 := cell_fresh k2 hy; have m3 := cell_fresh k3 hy; have m4 := cell_fresh k4 hy; have m5 := cell_fresh k5 hy; have H_x1 := Lib.hid hx1; have H_f2 := Lib.hid hy; clear hx1 r hy)
    | (go_at_call 10; (with_reducible refine (FixNum_any n2 c2 s2 _ hs2 hc2).mono ?_); rintro e w3 ⟨x2, rfl, hx2, r⟩; have o0 := cell_fresh m0 r; have o1 := cell_fresh m1 r; have o2 := cell_fresh m2 r; have o3 := cell_fresh m3 r; have o4 := cell_fresh m4 r; have o5 := cell_fresh m5 r; have H_x2 := Lib.hid hx2; have H_f3 := Lib.hid r; clear hx2 r)
    | (go_at_call 15; (with_reducible refine (H_hcmp.out _ _ _ (H_x1.out.fresh H_f3.out) H_x2.out).mono ?_); rintro e w4 ⟨rfl, r⟩; have u0 := cell_fresh o0 r; have u1 := cell_fresh o1 r; have u2 := cell_fresh o2 r; have u3 := cell_fresh o3 r; have u4 := cell_fresh o4 r; have u5 := cell_fresh o5 r; have H_f4 := Lib.hid r; clear r))
  go_wp2_with (fail)
  go_ret
  exact ⟨rfl, fresh_trans (fresh_trans (fresh_trans H_hf.out H_f2.out) H_f3.out) H_f4.out⟩

set_option maxRecDepth 20000 in
set_option maxHeartbeats 4000000 in
theorem gvTotal_p (n1 n2 : Bool) (c1 s1 c2 s2 : Nat) (w : World) (hs1 : s1 ≤ 19) (hs2 : s2 ≤ 19) (hc1 : c1 ≤ 9999999999999999999) (hc2 : c2 ≤ 9999999999999999999) (hz : zcmp n1 c1 s1 n2 c2 s2 = 1) :
    Calls Tryz.prog 26 #[fx n1 c1 s1, fx n2 c2 s2] w (VRet w (.int .i64 (ctot (zcmp n1 c1 s1 n2 c2 s2) s1 s2))) := by
  have hcmp := fun (xa xb : Value) (W : World) ha hb => FracCmp_any xa xb (zfix n1 c1) (zfix n2 c2) (10 ^ s1) (10 ^ s2) W ha hb (zfix_spow hc1) (zfix_spow hc2) (ten_spow hs1) (ten_spow hs2)
  change ∀ (xa xb : Value) (W : World) (ha : _) (hb : _), Calls Tryz.prog 15 #[xa, xb] W (IRet W (zcmp n1 c1 s1 n2 c2 s2)) at hcmp
  rw [hz] at hcmp ⊢
  rw [show ctot 1 s1 s2 = 1 from rfl]
  clear hz
  obtain ⟨g, hg⟩ : ∃ g, g = w.heap.size := ⟨_, rfl⟩
  have bx := boxes2 w #[.bool n1, .int .u64 c1, .int .i64 s1] #[.bool n2, .int .u64 c2, .int .i64 s2] 24 24 g hg
  have H_bx := Lib.hid bx; clear bx
  have H_hcmp := Lib.hid hcmp; clear hcmp
  go_enter Tryz.func26, Tryz.ntmps26
  go_wp2_with (fail)
  generalize hw1 : (w.alloc _).alloc _ = w1
  rw [← hg]
  obtain ⟨b1, b2, hf⟩ := H_bx.out w1 hw1
  have k0 := row_cell b1 0
  have k1 := row_cell b1 1
  have k2 := row_cell b1 2
  simp at k0 k1 k2
  have k3 := row_cell b2 0
  have k4 := row_cell b2 1
  have k5 := row_cell b2 2
  simp at k3 k4 k5
  have H_b1 := Lib.hid b1; clear b1
  have H_b2 := Lib.hid b2; clear b2
  have H_hf := Lib.hid hf; clear hf
  have H_hw1 := Lib.hid hw1; clear hw1
  have H_hg := Lib.hid hg; clear hg
  go_region_held3 (fun (w' : World) => w'.cell? ⟨g, 0, none⟩ = some (.bool n1) ∧ w'.cell? ⟨g, 1, none⟩ = some (.int .u64 c1) ∧ w'.cell? ⟨g, 2, none⟩ = some (.int .i64 s1) ∧ w'.cell? ⟨g + 1, 0, none⟩ = some (.bool n2) ∧ w'.cell? ⟨g + 1, 1, none⟩ = some (.int .u64 c2) ∧ w'.cell? ⟨g + 1, 2, none⟩ = some (.int .i64 s2)) (first | exact ⟨k0, k1, k2, k3, k4, k5⟩ | exact ⟨m0, m1, m2, m3, m4, m5⟩ | exact ⟨o0, o1, o2, o3, o4, o5⟩ | exact ⟨u0, u1, u2, u3, u4, u5⟩) (first
    | (go_at_call 10; (with_reducible refine (FixNum_any n1 c1 s1 _ hs1 hc1).mono ?_); rintro e w2 ⟨x1, rfl, hx1, r⟩; have hy : Fresh w1 w2 := (by first | exact r | exact r.of_drew | exact r.of_drewN); have m0 := cell_fresh k0 hy; have m1 := cell_fresh k1 hy; have m2 := cell_fresh k2 hy; have m3 := cell_fresh k3 hy; have m4 := cell_fresh k4 hy; have m5 := cell_fresh k5 hy; have H_x1 := Lib.hid hx1; have H_f2 := Lib.hid hy; clear hx1 r hy)
    | (go_at_call 10; (with_reducible refine (FixNum_any n2 c2 s2 _ hs2 hc2).mono ?_); rintro e w3 ⟨x2, rfl, hx2, r⟩; have o0 := cell_fresh m0 r; have o1 := cell_fresh m1 r; have o2 := cell_fresh m2 r; have o3 := cell_fresh m3 r; have o4 := cell_fresh m4 r; have o5 := cell_fresh m5 r; have H_x2 := Lib.hid hx2; have H_f3 := Lib.hid r; clear hx2 r)
    | (go_at_call 15; (with_reducible refine (H_hcmp.out _ _ _ (H_x1.out.fresh H_f3.out) H_x2.out).mono ?_); rintro e w4 ⟨rfl, r⟩; have u0 := cell_fresh o0 r; have u1 := cell_fresh o1 r; have u2 := cell_fresh o2 r; have u3 := cell_fresh o3 r; have u4 := cell_fresh o4 r; have u5 := cell_fresh o5 r; have H_f4 := Lib.hid r; clear r))
  go_wp2_with (fail)
  go_ret
  exact ⟨rfl, fresh_trans (fresh_trans (fresh_trans H_hf.out H_f2.out) H_f3.out) H_f4.out⟩

set_option maxRecDepth 20000 in
set_option maxHeartbeats 4000000 in
theorem gvTotal_g (n1 n2 : Bool) (c1 s1 c2 s2 : Nat) (w : World) (hs1 : s1 ≤ 19) (hs2 : s2 ≤ 19) (hc1 : c1 ≤ 9999999999999999999) (hc2 : c2 ≤ 9999999999999999999) (hz : zcmp n1 c1 s1 n2 c2 s2 = 0 ∧ s2 < s1) :
    Calls Tryz.prog 26 #[fx n1 c1 s1, fx n2 c2 s2] w (VRet w (.int .i64 (ctot (zcmp n1 c1 s1 n2 c2 s2) s1 s2))) := by
  have hcmp := fun (xa xb : Value) (W : World) ha hb => FracCmp_any xa xb (zfix n1 c1) (zfix n2 c2) (10 ^ s1) (10 ^ s2) W ha hb (zfix_spow hc1) (zfix_spow hc2) (ten_spow hs1) (ten_spow hs2)
  change ∀ (xa xb : Value) (W : World) (ha : _) (hb : _), Calls Tryz.prog 15 #[xa, xb] W (IRet W (zcmp n1 c1 s1 n2 c2 s2)) at hcmp
  obtain ⟨hz, hlt⟩ := hz
  rw [hz] at hcmp ⊢
  rw [show ctot 0 s1 s2 = -1 by unfold ctot; rw [if_neg (by omega), if_neg (by omega), if_pos hlt]]
  have t1 : decide ((s2 : Int) < (s1 : Int)) = true := by simp; omega
  clear hz
  obtain ⟨g, hg⟩ : ∃ g, g = w.heap.size := ⟨_, rfl⟩
  have bx := boxes2 w #[.bool n1, .int .u64 c1, .int .i64 s1] #[.bool n2, .int .u64 c2, .int .i64 s2] 24 24 g hg
  have H_bx := Lib.hid bx; clear bx
  have H_hcmp := Lib.hid hcmp; clear hcmp
  go_enter Tryz.func26, Tryz.ntmps26
  go_wp2_with (fail)
  generalize hw1 : (w.alloc _).alloc _ = w1
  rw [← hg]
  obtain ⟨b1, b2, hf⟩ := H_bx.out w1 hw1
  have k0 := row_cell b1 0
  have k1 := row_cell b1 1
  have k2 := row_cell b1 2
  simp at k0 k1 k2
  have k3 := row_cell b2 0
  have k4 := row_cell b2 1
  have k5 := row_cell b2 2
  simp at k3 k4 k5
  have H_b1 := Lib.hid b1; clear b1
  have H_b2 := Lib.hid b2; clear b2
  have H_hf := Lib.hid hf; clear hf
  have H_hw1 := Lib.hid hw1; clear hw1
  have H_hg := Lib.hid hg; clear hg
  go_region_held3 (fun (w' : World) => w'.cell? ⟨g, 0, none⟩ = some (.bool n1) ∧ w'.cell? ⟨g, 1, none⟩ = some (.int .u64 c1) ∧ w'.cell? ⟨g, 2, none⟩ = some (.int .i64 s1) ∧ w'.cell? ⟨g + 1, 0, none⟩ = some (.bool n2) ∧ w'.cell? ⟨g + 1, 1, none⟩ = some (.int .u64 c2) ∧ w'.cell? ⟨g + 1, 2, none⟩ = some (.int .i64 s2)) (first | exact ⟨k0, k1, k2, k3, k4, k5⟩ | exact ⟨m0, m1, m2, m3, m4, m5⟩ | exact ⟨o0, o1, o2, o3, o4, o5⟩ | exact ⟨u0, u1, u2, u3, u4, u5⟩) (first
    | (go_at_call 10; (with_reducible refine (FixNum_any n1 c1 s1 _ hs1 hc1).mono ?_); rintro e w2 ⟨x1, rfl, hx1, r⟩; have hy : Fresh w1 w2 := (by first | exact r | exact r.of_drew | exact r.of_drewN); have m0 := cell_fresh k0 hy; have m1 := cell_fresh k1 hy; have m2 := cell_fresh k2 hy; have m3 := cell_fresh k3 hy; have m4 := cell_fresh k4 hy; have m5 := cell_fresh k5 hy; have H_x1 := Lib.hid hx1; have H_f2 := Lib.hid hy; clear hx1 r hy)
    | (go_at_call 10; (with_reducible refine (FixNum_any n2 c2 s2 _ hs2 hc2).mono ?_); rintro e w3 ⟨x2, rfl, hx2, r⟩; have o0 := cell_fresh m0 r; have o1 := cell_fresh m1 r; have o2 := cell_fresh m2 r; have o3 := cell_fresh m3 r; have o4 := cell_fresh m4 r; have o5 := cell_fresh m5 r; have H_x2 := Lib.hid hx2; have H_f3 := Lib.hid r; clear hx2 r)
    | (go_at_call 15; (with_reducible refine (H_hcmp.out _ _ _ (H_x1.out.fresh H_f3.out) H_x2.out).mono ?_); rintro e w4 ⟨rfl, r⟩; have u0 := cell_fresh o0 r; have u1 := cell_fresh o1 r; have u2 := cell_fresh o2 r; have u3 := cell_fresh o3 r; have u4 := cell_fresh o4 r; have u5 := cell_fresh o5 r; have H_f4 := Lib.hid r; clear r))
  go_wp2_with (fail)
  go_ret
  exact ⟨rfl, fresh_trans (fresh_trans (fresh_trans H_hf.out H_f2.out) H_f3.out) H_f4.out⟩

set_option maxRecDepth 20000 in
set_option maxHeartbeats 4000000 in
theorem gvTotal_l (n1 n2 : Bool) (c1 s1 c2 s2 : Nat) (w : World) (hs1 : s1 ≤ 19) (hs2 : s2 ≤ 19) (hc1 : c1 ≤ 9999999999999999999) (hc2 : c2 ≤ 9999999999999999999) (hz : zcmp n1 c1 s1 n2 c2 s2 = 0 ∧ s1 < s2) :
    Calls Tryz.prog 26 #[fx n1 c1 s1, fx n2 c2 s2] w (VRet w (.int .i64 (ctot (zcmp n1 c1 s1 n2 c2 s2) s1 s2))) := by
  have hcmp := fun (xa xb : Value) (W : World) ha hb => FracCmp_any xa xb (zfix n1 c1) (zfix n2 c2) (10 ^ s1) (10 ^ s2) W ha hb (zfix_spow hc1) (zfix_spow hc2) (ten_spow hs1) (ten_spow hs2)
  change ∀ (xa xb : Value) (W : World) (ha : _) (hb : _), Calls Tryz.prog 15 #[xa, xb] W (IRet W (zcmp n1 c1 s1 n2 c2 s2)) at hcmp
  obtain ⟨hz, hlt⟩ := hz
  rw [hz] at hcmp ⊢
  rw [show ctot 0 s1 s2 = 1 by unfold ctot; rw [if_neg (by omega), if_neg (by omega), if_neg (by omega), if_pos hlt]]
  have hn0 : ¬ s2 < s1 := by omega
  have t0 : decide ((s2 : Int) < (s1 : Int)) = false := by simp; omega
  have t1 : decide ((s1 : Int) < (s2 : Int)) = true := by simp; omega
  clear hz
  obtain ⟨g, hg⟩ : ∃ g, g = w.heap.size := ⟨_, rfl⟩
  have bx := boxes2 w #[.bool n1, .int .u64 c1, .int .i64 s1] #[.bool n2, .int .u64 c2, .int .i64 s2] 24 24 g hg
  have H_bx := Lib.hid bx; clear bx
  have H_hcmp := Lib.hid hcmp; clear hcmp
  go_enter Tryz.func26, Tryz.ntmps26
  go_wp2_with (fail)
  generalize hw1 : (w.alloc _).alloc _ = w1
  rw [← hg]
  obtain ⟨b1, b2, hf⟩ := H_bx.out w1 hw1
  have k0 := row_cell b1 0
  have k1 := row_cell b1 1
  have k2 := row_cell b1 2
  simp at k0 k1 k2
  have k3 := row_cell b2 0
  have k4 := row_cell b2 1
  have k5 := row_cell b2 2
  simp at k3 k4 k5
  have H_b1 := Lib.hid b1; clear b1
  have H_b2 := Lib.hid b2; clear b2
  have H_hf := Lib.hid hf; clear hf
  have H_hw1 := Lib.hid hw1; clear hw1
  have H_hg := Lib.hid hg; clear hg
  go_region_held3 (fun (w' : World) => w'.cell? ⟨g, 0, none⟩ = some (.bool n1) ∧ w'.cell? ⟨g, 1, none⟩ = some (.int .u64 c1) ∧ w'.cell? ⟨g, 2, none⟩ = some (.int .i64 s1) ∧ w'.cell? ⟨g + 1, 0, none⟩ = some (.bool n2) ∧ w'.cell? ⟨g + 1, 1, none⟩ = some (.int .u64 c2) ∧ w'.cell? ⟨g + 1, 2, none⟩ = some (.int .i64 s2)) (first | exact ⟨k0, k1, k2, k3, k4, k5⟩ | exact ⟨m0, m1, m2, m3, m4, m5⟩ | exact ⟨o0, o1, o2, o3, o4, o5⟩ | exact ⟨u0, u1, u2, u3, u4, u5⟩) (first
    | (go_at_call 10; (with_reducible refine (FixNum_any n1 c1 s1 _ hs1 hc1).mono ?_); rintro e w2 ⟨x1, rfl, hx1, r⟩; have hy : Fresh w1 w2 := (by first | exact r | exact r.of_drew | exact r.of_drewN); have m0 := cell_fresh k0 hy; have m1 := cell_fresh k1 hy; have m2 := cell_fresh k2 hy; have m3 := cell_fresh k3 hy; have m4 := cell_fresh k4 hy; have m5 := cell_fresh k5 hy; have H_x1 := Lib.hid hx1; have H_f2 := Lib.hid hy; clear hx1 r hy)
    | (go_at_call 10; (with_reducible refine (FixNum_any n2 c2 s2 _ hs2 hc2).mono ?_); rintro e w3 ⟨x2, rfl, hx2, r⟩; have o0 := cell_fresh m0 r; have o1 := cell_fresh m1 r; have o2 := cell_fresh m2 r; have o3 := cell_fresh m3 r; have o4 := cell_fresh m4 r; have o5 := cell_fresh m5 r; have H_x2 := Lib.hid hx2; have H_f3 := Lib.hid r; clear hx2 r)
    | (go_at_call 15; (with_reducible refine (H_hcmp.out _ _ _ (H_x1.out.fresh H_f3.out) H_x2.out).mono ?_); rintro e w4 ⟨rfl, r⟩; have u0 := cell_fresh o0 r; have u1 := cell_fresh o1 r; have u2 := cell_fresh o2 r; have u3 := cell_fresh o3 r; have u4 := cell_fresh o4 r; have u5 := cell_fresh o5 r; have H_f4 := Lib.hid r; clear r))
  go_wp2_with (fail)
  go_ret
  exact ⟨rfl, fresh_trans (fresh_trans (fresh_trans H_hf.out H_f2.out) H_f3.out) H_f4.out⟩

set_option maxRecDepth 20000 in
set_option maxHeartbeats 4000000 in
theorem gvTotal_e (n1 n2 : Bool) (c1 s1 c2 s2 : Nat) (w : World) (hs1 : s1 ≤ 19) (hs2 : s2 ≤ 19) (hc1 : c1 ≤ 9999999999999999999) (hc2 : c2 ≤ 9999999999999999999) (hz : zcmp n1 c1 s1 n2 c2 s2 = 0 ∧ s1 = s2) :
    Calls Tryz.prog 26 #[fx n1 c1 s1, fx n2 c2 s2] w (VRet w (.int .i64 (ctot (zcmp n1 c1 s1 n2 c2 s2) s1 s2))) := by
  have hcmp := fun (xa xb : Value) (W : World) ha hb => FracCmp_any xa xb (zfix n1 c1) (zfix n2 c2) (10 ^ s1) (10 ^ s2) W ha hb (zfix_spow hc1) (zfix_spow hc2) (ten_spow hs1) (ten_spow hs2)
  change ∀ (xa xb : Value) (W : World) (ha : _) (hb : _), Calls Tryz.prog 15 #[xa, xb] W (IRet W (zcmp n1 c1 s1 n2 c2 s2)) at hcmp
  obtain ⟨hz, hlt⟩ := hz
  rw [hz] at hcmp ⊢
  subst hlt
  rw [show ctot 0 s1 s1 = 0 by unfold ctot; rw [if_neg (by omega), if_neg (by omega), if_neg (by omega), if_neg (by omega)]]
  have t1 : decide ((s1 : Int) < (s1 : Int)) = false := by simp
  clear hz
  obtain ⟨g, hg⟩ : ∃ g, g = w.heap.size := ⟨_, rfl⟩
  have bx := boxes2 w #[.bool n1, .int .u64 c1, .int .i64 s1] #[.bool n2, .int .u64 c2, .int .i64 s1] 24 24 g hg
  have H_bx := Lib.hid bx; clear bx
  have H_hcmp := Lib.hid hcmp; clear hcmp
  go_enter Tryz.func26, Tryz.ntmps26
  go_wp2_with (fail)
  generalize hw1 : (w.alloc _).alloc _ = w1
  rw [← hg]
  obtain ⟨b1, b2, hf⟩ := H_bx.out w1 hw1
  have k0 := row_cell b1 0
  have k1 := row_cell b1 1
  have k2 := row_cell b1 2
  simp at k0 k1 k2
  have k3 := row_cell b2 0
  have k4 := row_cell b2 1
  have k5 := row_cell b2 2
  simp at k3 k4 k5
  have H_b1 := Lib.hid b1; clear b1
  have H_b2 := Lib.hid b2; clear b2
  have H_hf := Lib.hid hf; clear hf
  have H_hw1 := Lib.hid hw1; clear hw1
  have H_hg := Lib.hid hg; clear hg
  go_region_held3 (fun (w' : World) => w'.cell? ⟨g, 0, none⟩ = some (.bool n1) ∧ w'.cell? ⟨g, 1, none⟩ = some (.int .u64 c1) ∧ w'.cell? ⟨g, 2, none⟩ = some (.int .i64 s1) ∧ w'.cell? ⟨g + 1, 0, none⟩ = some (.bool n2) ∧ w'.cell? ⟨g + 1, 1, none⟩ = some (.int .u64 c2) ∧ w'.cell? ⟨g + 1, 2, none⟩ = some (.int .i64 s1)) (first | exact ⟨k0, k1, k2, k3, k4, k5⟩ | exact ⟨m0, m1, m2, m3, m4, m5⟩ | exact ⟨o0, o1, o2, o3, o4, o5⟩ | exact ⟨u0, u1, u2, u3, u4, u5⟩) (first
    | (go_at_call 10; (with_reducible refine (FixNum_any n1 c1 s1 _ hs1 hc1).mono ?_); rintro e w2 ⟨x1, rfl, hx1, r⟩; have hy : Fresh w1 w2 := (by first | exact r | exact r.of_drew | exact r.of_drewN); have m0 := cell_fresh k0 hy; have m1 := cell_fresh k1 hy; have m2 := cell_fresh k2 hy; have m3 := cell_fresh k3 hy; have m4 := cell_fresh k4 hy; have m5 := cell_fresh k5 hy; have H_x1 := Lib.hid hx1; have H_f2 := Lib.hid hy; clear hx1 r hy)
    | (go_at_call 10; (with_reducible refine (FixNum_any n2 c2 s1 _ hs2 hc2).mono ?_); rintro e w3 ⟨x2, rfl, hx2, r⟩; have o0 := cell_fresh m0 r; have o1 := cell_fresh m1 r; have o2 := cell_fresh m2 r; have o3 := cell_fresh m3 r; have o4 := cell_fresh m4 r; have o5 := cell_fresh m5 r; have H_x2 := Lib.hid hx2; have H_f3 := Lib.hid r; clear hx2 r)
    | (go_at_call 15; (with_reducible refine (H_hcmp.out _ _ _ (H_x1.out.fresh H_f3.out) H_x2.out).mono ?_); rintro e w4 ⟨rfl, r⟩; have u0 := cell_fresh o0 r; have u1 := cell_fresh o1 r; have u2 := cell_fresh o2 r; have u3 := cell_fresh o3 r; have u4 := cell_fresh o4 r; have u5 := cell_fresh o5 r; have H_f4 := Lib.hid r; clear r))
  go_wp2_with (fail)
  go_ret
  exact ⟨rfl, fresh_trans (fresh_trans (fresh_trans H_hf.out H_f2.out) H_f3.out) H_f4.out⟩

theorem gvTotal_any (n1 n2 : Bool) (c1 s1 c2 s2 : Nat) (w : World) (hs1 : s1 ≤ 19) (hs2 : s2 ≤ 19) (hc1 : c1 ≤ 9999999999999999999) (hc2 : c2 ≤ 9999999999999999999) :
    Calls Tryz.prog 26 #[fx n1 c1 s1, fx n2 c2 s2] w (VRet w (.int .i64 (ctot (zcmp n1 c1 s1 n2 c2 s2) s1 s2))) := by
  rcases zcmp_cases n1 c1 s1 n2 c2 s2 with h | h | h
  · exact gvTotal_m n1 n2 c1 s1 c2 s2 w hs1 hs2 hc1 hc2 h
  · exact gvTotal_p n1 n2 c1 s1 c2 s2 w hs1 hs2 hc1 hc2 h
  · rcases Nat.lt_trichotomy s1 s2 with k | k | k
    · exact gvTotal_l n1 n2 c1 s1 c2 s2 w hs1 hs2 hc1 hc2 ⟨h, k⟩
    · exact gvTotal_e n1 n2 c1 s1 c2 s2 w hs1 hs2 hc1 hc2 ⟨h, k⟩
    · exact gvTotal_g n1 n2 c1 s1 c2 s2 w hs1 hs2 hc1 hc2 ⟨h, k⟩

end Go.Proofs.YtecadiflbfpofaaGreatDoor
