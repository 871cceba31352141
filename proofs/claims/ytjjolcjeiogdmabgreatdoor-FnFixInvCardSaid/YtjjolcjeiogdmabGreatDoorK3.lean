/- The contracts of the reference's fractions: Frac.Cmp. -/
import Derived.Defers
import Derived.Recover
import Derived.Test.YtjjolcjeiogdmabGreatDoorRows
import Derived.ProofKit
import Derived.LaidMore
import Derived.OpenShut
import Derived.OpenVars
import Derived.Stop.Joined
import Derived.Stop.LaidErr
import Derived.Lib.LaidTab
import Derived.Lib.SmallJoins
import Derived.Test.YtjjolcjeiogdmabGreatDoorK2
namespace Go.Proofs.YtjjolcjeiogdmabGreatDoor
open Go.RowKit

theorem sint_natAbs (neg : Bool) (l : List Nat) : (sint neg l).natAbs = sval l := by unfold sint; split <;> simp

set_option maxRecDepth 20000 in
set_option maxHeartbeats 4000000 in
theorem FracCmp_any (xa xb : Value) (za zb : Int) (da db : Nat) (w : World) (ha : SFr w xa za da) (hb : SFr w xb zb db) (h1 : za.natAbs < spow 1000) (h2 : zb.natAbs < spow 1000) (h3 : da < spow 1000) (h4 : db < spow 1000) :
    Calls Tryz.prog 27 #[xa, xb] w (IRet w (cmpZ (za * db) (zb * da))) := by
  obtain ⟨na, va, la, dva, dla, rfl, ha, hna, hca, rfl, hda, hdna, rfl⟩ := ha
  obtain ⟨nb, vb, lb, dvb, dlb, rfl, hb, hnb, hcb, rfl, hdb, hdnb, rfl⟩ := hb
  rw [sint_natAbs] at h1 h2
  have l1 := hna.s_len_le h1
  have l2 := hnb.s_len_le h2
  have l3 := hdna.s_len_le h3
  have l4 := hdnb.s_len_le h4
  obtain ⟨aa, ca, rfl⟩ := ha.form
  obtain ⟨ab, cb, rfl⟩ := hb.form
  obtain ⟨ada, cda, rfl⟩ := hda.form
  obtain ⟨adb, cdb, rfl⟩ := hdb.form
  obtain ⟨g, hg⟩ : ∃ g, g = w.heap.size := ⟨_, rfl⟩
  have bx := boxes2 w #[.bool na, .slice aa la.length ca, .slice ada dla.length cda] #[.bool nb, .slice ab lb.length cb, .slice adb dlb.length cdb] 34 34 g hg
  have hmul1 : ∀ w1, Fresh w w1 → ∀ W, Fresh w1 W → Calls Tryz.prog 40 #[swh na (.slice aa la.length ca), swh false (.slice adb dlb.length cdb)] W (WRet W (sint na la * sint false dlb)) := fun w1 hf W hW => WholeMul_any _ _ _ _ la dlb W ((ha.fresh hf).fresh hW) ((hdb.fresh hf).fresh hW) (by omega)
  have hmul2 : ∀ w1, Fresh w w1 → ∀ W, Fresh w1 W → Calls Tryz.prog 40 #[swh nb (.slice ab lb.length cb), swh false (.slice ada dla.length cda)] W (WRet W (sint nb lb * sint false dla)) := fun w1 hf W hW => WholeMul_any _ _ _ _ lb dla W ((hb.fresh hf).fresh hW) ((hda.fresh hf).fresh hW) (by omega)
  have H_ha := Lib.hid ha; clear ha
  have H_hb := Lib.hid hb; clear hb
  have H_hda := Lib.hid hda; clear hda
  have H_hdb := Lib.hid hdb; clear hdb
  have H_bx := Lib.hid bx; clear bx
  have H_hna := Lib.hid hna; clear hna
  have H_hca := Lib.hid hca; clear hca
  have H_hnb := Lib.hid hnb; clear hnb
  have H_hcb := Lib.hid hcb; clear hcb
  have H_hdna := Lib.hid hdna; clear hdna
  have H_hdnb := Lib.hid hdnb; clear hdnb
  have H_h1 := Lib.hid h1; clear h1
  have H_h2 := Lib.hid h2; clear h2
  have H_h3 := Lib.hid h3; clear h3
  have H_h4 := Lib.hid h4; clear h4
  have H_hmul1 := Lib.hid hmul1; clear hmul1
  have H_hmul2 := Lib.hid hmul2; clear hmul2
  go_enter Tryz.func27, Tryz.ntmps27
  go_wp2_with (fail)
  generalize hw1 : (w.alloc _).alloc _ = w1
  rw [← hg]
  obtain ⟨b1, b2, hf⟩ := H_bx.out w1 hw1
  have k0 := row_cell b1 0
  have k1 := row_cell b1 1
  have k2 := row_cell b1 2
  have k3 := row_cell b2 0
  have k4 := row_cell b2 1
  have k5 := row_cell b2 2
  simp at k0 k1 k2 k3 k4 k5
  have hmul1 := H_hmul1.out w1 hf
  have hmul2 := H_hmul2.out w1 hf
  clear H_hmul1 H_hmul2
  have H_b1 := Lib.hid b1; clear b1
  have H_b2 := Lib.hid b2; clear b2
  have H_hf := Lib.hid hf; clear hf
  have H_hw1 := Lib.hid hw1; clear hw1
  have H_hg := Lib.hid hg; clear hg
  have H_hmul1 := Lib.hid hmul1; clear hmul1
  have H_hmul2 := Lib.hid hmul2; clear hmul2
  go_region_held3 (fun (w' : World) => w'.cell? ⟨g, 0, none⟩ = some (.bool na) ∧ w'.cell? ⟨g, 1, none⟩ = some (.slice aa la.length ca) ∧ w'.cell? ⟨g, 2, none⟩ = some (.slice ada dla.length cda) ∧ w'.cell? ⟨g + 1, 0, none⟩ = some (.bool nb) ∧ w'.cell? ⟨g + 1, 1, none⟩ = some (.slice ab lb.length cb) ∧ w'.cell? ⟨g + 1, 2, none⟩ = some (.slice adb dlb.length cdb)) (first | exact ⟨k0, k1, k2, k3, k4, k5⟩ | exact ⟨m0, m1, m2, m3, m4, m5⟩ | exact ⟨n0, n1, n2, n3, n4, n5⟩ | exact ⟨o0, o1, o2, o3, o4, o5⟩) (first
    | (go_at_call 40; (with_reducible refine (H_hmul1.out _ ?c1).mono ?_); (case c1 => first | exact Keep.refl _ _ | exact (Keep.refl _ _).drew | exact (Keep.refl _ _).drewN _); rintro e w3 ⟨x1, rfl, r1, r2⟩; have hf3 : Fresh w1 w3 := (by first | exact r2 | exact r2.of_drew | exact r2.of_drewN); have m0 := cell_fresh k0 hf3; have m1 := cell_fresh k1 hf3; have m2 := cell_fresh k2 hf3; have m3 := cell_fresh k3 hf3; have m4 := cell_fresh k4 hf3; have m5 := cell_fresh k5 hf3; have H_r1 := Lib.hid r1; have H_hf3 := Lib.hid hf3; clear r1 r2 hf3)
    | (go_at_call 40; (with_reducible refine (H_hmul2.out _ H_hf3.out).mono ?_); rintro e w4 ⟨x2, rfl, s1, s2⟩; have n0 := cell_fresh m0 s2; have n1 := cell_fresh m1 s2; have n2 := cell_fresh m2 s2; have n3 := cell_fresh m3 s2; have n4 := cell_fresh m4 s2; have n5 := cell_fresh m5 s2; have H_s1 := Lib.hid s1; have H_s2 := Lib.hid s2; clear s1 s2)
    | (go_at_call 41; (with_reducible refine (WholeCmp_any _ _ _ _ _ (H_r1.out.fresh H_s2.out) H_s1.out).mono ?_); rintro e w5 ⟨rfl, t1⟩; have o0 := cell_fresh n0 t1; have o1 := cell_fresh n1 t1; have o2 := cell_fresh n2 t1; have o3 := cell_fresh n3 t1; have o4 := cell_fresh n4 t1; have o5 := cell_fresh n5 t1; have H_t1 := Lib.hid t1; clear t1))
  go_wp2
  go_ret
  refine ⟨?_, fresh_trans (fresh_trans (fresh_trans H_hf.out H_hf3.out) H_s2.out) H_t1.out⟩
  simp [sint]

end Go.Proofs.YtjjolcjeiogdmabGreatDoor

/- The contracts of govalues' decimals: IsNeg, Coef, Scale, newUnsafe. -/
namespace Go.Proofs.YtjjolcjeiogdmabGreatDoor
open Go.RowKit

/-- a decimal of govalues -/
abbrev gd (neg : Bool) (s c : Nat) : Value := .agg #[.bool neg, .int .i8 s, .int .u64 c]
/-- a decimal of the thin package -/
abbrev fx (neg : Bool) (c s : Nat) : Value := .agg #[.bool neg, .int .u64 c, .int .i64 s]

/-- the call returns the value v, and changes nothing that was there -/
def VRet (w : World) (v : Value) (e : Ending) (w' : World) : Prop := e = .returned v ∧ Fresh w w'

theorem IsNeg_any (neg : Bool) (s c : Nat) (w : World) : Calls Tryz.prog 22 #[gd neg s c] w (VRet w (.bool neg)) := by
  go_enter Tryz.func22, Tryz.ntmps22
  go_wp2
  go_ret
  exact ⟨rfl, (Keep.refl _ _).alloc _⟩

theorem Coef_any (neg : Bool) (s c : Nat) (w : World) : Calls Tryz.prog 23 #[gd neg s c] w (VRet w (.int .u64 c)) := by
  go_enter Tryz.func23, Tryz.ntmps23
  go_wp2
  go_ret
  exact ⟨rfl, (Keep.refl _ _).alloc _⟩

theorem Scale_any (neg : Bool) (s c : Nat) (w : World) (hs : s ≤ 19) : Calls Tryz.prog 24 #[gd neg s c] w (VRet w (.int .i64 s)) := by
  have hw : IntKind.i64.wrap (s : Int) = (s : Int) := wrap_nat s (by omega)
  go_enter Tryz.func24, Tryz.ntmps24
  go_wp2
  go_ret
  exact ⟨rfl, (Keep.refl _ _).alloc _⟩

theorem wrap_i8 (s : Nat) (hs : s ≤ 19) : IntKind.i8.wrap (s : Int) = (s : Int) := by
  have : ∀ n : Fin 20, IntKind.i8.wrap ((n.val : Nat) : Int) = ((n.val : Nat) : Int) := by decide
  exact this ⟨s, by omega⟩

theorem results_cell_tmp_row {P : Program} {fn : Func} {p u : Tmp} {ty : TypeId} (h : fn.results = #[.cell p ty, .tmp u]) (tmps : Array Value) (w : World) (g : Nat) (t : TypeId) (cs : Array Value) (fr : Nat × Nat) (d : TypeDesc)
    (hp : tmps.getD p undef = .pointer (some ⟨g, 0, none⟩)) (hg : w.heap[g]? = some (.cells cs t fr)) (hu : P.underlying ty = some d) (hd : (match d with | .struct _ | .array _ _ => true | _ => false) = true) (hi : (P.info? ty).map (·.size) = some cs.size) :
    (results fn tmps).run P w = .ok (.tuple #[.agg cs, tmps.getD u undef]) w := by
  rw [results_cell_tmp h, hp]
  simp [asAddr, Result.andThen, run_loadVar_row w g t ty cs fr d hg hu hd hi]

theorem newUnsafe_any (neg : Bool) (s c : Nat) (w : World) (hs : s ≤ 19) : Calls Tryz.prog 43 #[.bool neg, .int .u64 c, .int .i64 s] w (VRet w (gd (neg && decide (0 < c)) s c)) := by
  have hw := wrap_i8 s hs
  by_cases hc : c = 0
  · subst hc
    go_enter Tryz.func43, Tryz.ntmps43
    go_wp2
    refine bodyPost_ret (results_cell_row rfl _ _ (w.heap.size) 40 #[.bool false, .int .i8 s, .int .u64 (0 : Nat)] (0, 0) _ rfl (heap_alloc_new w _) Tryz.underlying40 rfl (by kernel_rfl)) rfl ?_
    exact ⟨by simp, (Keep.refl _ _).alloc _⟩
  · have t1 : ((c : Int) == 0) = false := by rw [beq_eq_false_iff_ne]; omega
    have t2 : decide (0 < c) = true := by simp; omega
    rw [t2, Bool.and_true]
    have H_hc := Lib.hid hc
    clear hc t2
    go_enter Tryz.func43, Tryz.ntmps43
    go_wp2
    refine bodyPost_ret (results_cell_row rfl _ _ (w.heap.size) 40 #[.bool neg, .int .i8 s, .int .u64 c] (0, 0) _ rfl (heap_alloc_new w _) Tryz.underlying40 rfl (by kernel_rfl)) rfl ?_
    exact ⟨rfl, (Keep.refl _ _).alloc _⟩

theorem newSafe_any (neg : Bool) (s c : Nat) (w : World) (hs : s ≤ 19) (hc : c ≤ 9999999999999999999) :
    Calls Tryz.prog 32 #[.bool neg, .int .u64 c, .int .i64 s] w (VRet w (.tuple #[gd (neg && decide (0 < c)) s c, .nilIface])) := by
  have t1 : decide ((s : Int) < 0) = false := by simp
  have t2 : decide ((19 : Int) < (s : Int)) = false := by simp; omega
  have t3 : decide ((9999999999999999999 : Int) < (c : Int)) = false := by simp; omega
  go_enter Tryz.func32, Tryz.ntmps32
  go_wp2_with (fail)
  refine (newUnsafe_any neg s c _ hs).mono ?_
  rintro e w2 ⟨rfl, hf⟩
  have b := row_fresh (heap_alloc_new w _) hf
  have p0 := row_cell b 0
  have p1 := row_cell b 1
  have p2 := row_cell b 2
  simp at p0 p1 p2
  have q0 : w2.frozen? ⟨w.heap.size, 0, none⟩ = false := frozen_of_row _ _ _ _ _ b
  have q1 : w2.frozen? ⟨w.heap.size, 1, none⟩ = false := frozen_of_row _ _ _ _ _ b
  have q2 : w2.frozen? ⟨w.heap.size, 2, none⟩ = false := frozen_of_row _ _ _ _ _ b
  have H_b := Lib.hid b; clear b
  have H_hf := Lib.hid hf; clear hf
  go_wp2_with (fail)
  refine bodyPost_ret (results_cell_tmp_row rfl _ _ w.heap.size 40 #[.bool (neg && decide (0 < c)), .int .i8 s, .int .u64 c] (0, 0) _ rfl (row_set (row_set (row_set H_b.out))) Tryz.underlying40 rfl (by kernel_rfl)) rfl ?_
  exact ⟨rfl, Fresh.set3 (fresh_trans ((Keep.refl _ _).alloc _) H_hf.out) (Nat.le_refl _)⟩

theorem ZzMake_any (neg : Bool) (s c : Nat) (w : World) (hs : s ≤ 19) (hc : c ≤ 9999999999999999999) :
    Calls Tryz.prog 18 #[.bool neg, .int .u64 c, .int .i64 s] w (VRet w (.tuple #[gd (neg && decide (0 < c)) s c, .nilIface])) := by
  go_enter Tryz.func18, Tryz.ntmps18
  go_wp2_with (fail)
  refine (newSafe_any neg s c _ hs hc).mono ?_
  rintro e w2 ⟨rfl, hf⟩
  have b := row_fresh (heap_alloc_new w _) hf
  have p0 := row_cell b 0
  have p1 := row_cell b 1
  have p2 := row_cell b 2
  simp at p0 p1 p2
  have q0 : w2.frozen? ⟨w.heap.size, 0, none⟩ = false := frozen_of_row _ _ _ _ _ b
  have q1 : w2.frozen? ⟨w.heap.size, 1, none⟩ = false := frozen_of_row _ _ _ _ _ b
  have q2 : w2.frozen? ⟨w.heap.size, 2, none⟩ = false := frozen_of_row _ _ _ _ _ b
  have H_b := Lib.hid b; clear b
  have H_hf := Lib.hid hf; clear hf
  go_wp2_with (fail)
  refine bodyPost_ret (results_cell_tmp_row rfl _ _ w.heap.size 40 #[.bool (neg && decide (0 < c)), .int .i8 s, .int .u64 c] (0, 0) _ rfl (row_set (row_set (row_set H_b.out))) Tryz.underlying40 rfl (by kernel_rfl)) rfl ?_
  exact ⟨rfl, Fresh.set3 (fresh_trans ((Keep.refl _ _).alloc _) H_hf.out) (Nat.le_refl _)⟩

end Go.Proofs.YtjjolcjeiogdmabGreatDoor

/- The contracts of govalues' decimals: Neg, Abs, CopySign; of the thin package: fixed, fix. -/
namespace Go.Proofs.YtjjolcjeiogdmabGreatDoor
open Go.RowKit

theorem fixed_any (neg : Bool) (s c : Nat) (w : World) (hs : s ≤ 19) (hc : c ≤ 9999999999999999999) :
    Calls Tryz.prog 10 #[fx neg c s] w (VRet w (.tuple #[gd (neg && decide (0 < c)) s c, .bool true])) := by
  obtain ⟨g, hg⟩ : ∃ g, g = w.heap.size := ⟨_, rfl⟩
  have bx := boxes2 w #[.bool neg, .int .u64 c, .int .i64 s] #[.bool false, .int .i8 0, .int .u64 0] 24 40 g hg
  have H_bx := Lib.hid bx; clear bx
  go_enter Tryz.func10, Tryz.ntmps10
  go_wp2_with (fail)
  generalize hw1 : (w.alloc _).alloc _ = w1
  rw [← hg]
  obtain ⟨b1, b2, hf⟩ := H_bx.out w1 hw1
  refine (ZzMake_any neg s c _ hs hc).mono ?_
  rintro e w2 ⟨rfl, hf2⟩
  have b3 := row_fresh b2 hf2
  have hg2 : g + 1 < w2.heap.size := by
    rcases Nat.lt_or_ge (g + 1) w2.heap.size with h | h
    · exact h
    · rw [Array.getElem?_eq_none h] at b3; cases b3
  have H_b1 := Lib.hid b1; clear b1
  have H_b2 := Lib.hid b2; clear b2
  have H_hf := Lib.hid hf; clear hf
  have H_hw1 := Lib.hid hw1; clear hw1
  have H_hg := Lib.hid hg; clear hg
  go_wp2_with (fail)
  generalize hneg : (neg && decide (0 < c)) = neg' at *
  obtain ⟨h, hh⟩ : ∃ h, h = w2.heap.size := ⟨_, rfl⟩
  generalize hw3 : w2.alloc _ = w3
  rw [← hh] at hg2 ⊢
  have hf3 : Fresh w2 w3 := by rw [← hw3]; exact (Keep.refl _ _).alloc _
  have b4 := row_fresh b3 hf3
  have b5 : w3.heap[h]? = some (.cells #[.bool neg', .int .i8 s, .int .u64 c] 40 (0, 0)) := by rw [← hw3, hh]; exact heap_alloc_new w2 _
  have p0 := row_cell b4 0
  have p1 := row_cell b4 1
  have p2 := row_cell b4 2
  simp at p0 p1 p2
  have q0 : w3.frozen? ⟨g + 1, 0, none⟩ = false := frozen_of_row _ _ _ _ _ b4
  have q1 : w3.frozen? ⟨g + 1, 1, none⟩ = false := frozen_of_row _ _ _ _ _ b4
  have q2 : w3.frozen? ⟨g + 1, 2, none⟩ = false := frozen_of_row _ _ _ _ _ b4
  have k0 := row_cell b5 0
  have k1 := row_cell b5 1
  have k2 := row_cell b5 2
  simp at k0 k1 k2
  have H_b3 := Lib.hid b3; clear b3
  have H_b4 := Lib.hid b4; clear b4
  have H_b5 := Lib.hid b5; clear b5
  have H_hh := Lib.hid hh; clear hh
  have H_hw3 := Lib.hid hw3; clear hw3
  have H_hf2 := Lib.hid hf2; clear hf2
  have H_hf3 := Lib.hid hf3; clear hf3
  have H_hneg := Lib.hid hneg; clear hneg
  go_region_held3 (fun (w' : World) => w'.cell? ⟨h, 0, none⟩ = some (.bool neg') ∧ w'.cell? ⟨h, 1, none⟩ = some (.int .i8 s) ∧ w'.cell? ⟨h, 2, none⟩ = some (.int .u64 c)) (first | exact ⟨k0, k1, k2⟩ | exact ⟨far3 (by omega) k0, far3 (by omega) k1, far3 (by omega) k2⟩) (first | fail)
  go_wp2
  refine bodyPost_ret (results_cell_tmp_row rfl _ _ (g + 1) 40 #[.bool neg', .int .i8 s, .int .u64 c] (0, 0) _ rfl (row_set (row_set (row_set H_b4.out))) Tryz.underlying40 rfl (by kernel_rfl)) rfl ?_
  exact ⟨by rfl, (Fresh.set3 (g := g + 1) (fresh_trans (fresh_trans H_hf.out H_hf2.out) H_hf3.out) (by have := H_hg.out; omega)).drew⟩

set_option maxRecDepth 20000 in
set_option maxHeartbeats 2000000 in
theorem fix_any (neg : Bool) (s c : Nat) (w : World) (hs : s ≤ 19) :
    Calls Tryz.prog 12 #[gd neg s c] w (VRet w (fx neg c s)) := by
  obtain ⟨g, hg⟩ : ∃ g, g = w.heap.size := ⟨_, rfl⟩
  have bx := boxes2 w #[.bool neg, .int .i8 s, .int .u64 c] #[.bool false, .int .u64 0, .int .i64 0] 40 24 g hg
  have H_bx := Lib.hid bx; clear bx
  go_enter Tryz.func12, Tryz.ntmps12
  go_wp2_with (fail)
  generalize hw1 : (w.alloc _).alloc _ = w1
  rw [← hg]
  obtain ⟨b1, b2, hf⟩ := H_bx.out w1 hw1
  have k0 := row_cell b1 0
  have k1 := row_cell b1 1
  have k2 := row_cell b1 2
  simp at k0 k1 k2
  have H_b1 := Lib.hid b1; clear b1
  have H_b2 := Lib.hid b2; clear b2
  have H_hf := Lib.hid hf; clear hf
  have H_hw1 := Lib.hid hw1; clear hw1
  have H_hg := Lib.hid hg; clear hg
  go_region_held3 (fun (w' : World) => w'.cell? ⟨g, 0, none⟩ = some (.bool neg) ∧ w'.cell? ⟨g, 1, none⟩ = some (.int .i8 s) ∧ w'.cell? ⟨g, 2, none⟩ = some (.int .u64 c)) (first | exact ⟨k0, k1, k2⟩ | exact ⟨m0, m1, m2⟩ | exact ⟨n0, n1, n2⟩ | exact ⟨o0, o1, o2⟩ | exact ⟨far3 (by omega) o0, far3 (by omega) o1, far3 (by omega) o2⟩) (first
    | (go_at_call 22; (with_reducible refine (IsNeg_any neg s c _).mono ?_); rintro e w2 ⟨rfl, r⟩; have hf0 : Fresh w1 w2 := (by first | exact r | exact r.of_drew | exact r.of_drewN); have m0 := cell_fresh k0 hf0; have m1 := cell_fresh k1 hf0; have m2 := cell_fresh k2 hf0; have H_hf0 := Lib.hid hf0; clear hf0 r)
    | (go_at_call 23; (with_reducible refine (Coef_any neg s c _).mono ?_); rintro e w3 ⟨rfl, r⟩; have hf1 : Fresh w2 w3 := r; have n0 := cell_fresh m0 hf1; have n1 := cell_fresh m1 hf1; have n2 := cell_fresh m2 hf1; have H_hf1 := Lib.hid hf1; clear hf1 r)
    | (go_at_call 24; (with_reducible refine (Scale_any neg s c _ hs).mono ?_); rintro e w4 ⟨rfl, r⟩; have hf2 : Fresh w3 w4 := r; have o0 := cell_fresh n0 hf2; have o1 := cell_fresh n1 hf2; have o2 := cell_fresh n2 hf2; have hfa : Fresh w1 w4 := fresh_trans (fresh_trans (H_hf0.out) H_hf1.out) hf2; have b4 := row_fresh H_b2.out hfa; have p0 := row_cell b4 0; have p1 := row_cell b4 1; have p2 := row_cell b4 2; simp at p0 p1 p2; have q0 : w4.frozen? ⟨g + 1, 0, none⟩ = false := frozen_of_row _ _ _ _ _ b4; have q1 : w4.frozen? ⟨g + 1, 1, none⟩ = false := frozen_of_row _ _ _ _ _ b4; have q2 : w4.frozen? ⟨g + 1, 2, none⟩ = false := frozen_of_row _ _ _ _ _ b4; have H_hfa := Lib.hid hfa; have H_b4 := Lib.hid b4; clear hfa b4; have H_hf2 := Lib.hid hf2; clear hf2 r))
  go_wp2
  refine bodyPost_ret (results_cell_row rfl _ _ (g + 1) 24 #[.bool neg, .int .u64 c, .int .i64 s] (0, 0) _ rfl (row_set (row_set (row_set H_b4.out))) Tryz.underlying24 rfl (by kernel_rfl)) rfl ?_
  exact ⟨rfl, (fresh_trans H_hf.out H_hfa.out).set3 (by have := H_hg.out; omega)⟩

end Go.Proofs.YtjjolcjeiogdmabGreatDoor

/- The contracts of the thin package: FixNeg. -/
namespace Go.Proofs.YtjjolcjeiogdmabGreatDoor
open Go.RowKit

theorem results_cell_cell {P : Program} {fn : Func} {p q : Tmp} {ty ty' : TypeId} (h : fn.results = #[.cell p ty, .cell q ty']) (tmps : Array Value) (w : World) (g : Nat) (t : TypeId) (cs : Array Value) (fr : Nat × Nat) (d : TypeDesc) (g' : Nat) (v : Value)
    (hp : tmps.getD p undef = .pointer (some ⟨g, 0, none⟩)) (hq : tmps.getD q undef = .pointer (some ⟨g', 0, none⟩)) (hg : w.heap[g]? = some (.cells cs t fr)) (hu : P.underlying ty = some d) (hd : (match d with | .struct _ | .array _ _ => true | _ => false) = true) (hi : (P.info? ty).map (·.size) = some cs.size)
    (hv : (loadVar ty' ⟨g', 0, none⟩).run P w = .ok v w) :
    (results fn tmps).run P w = .ok (.tuple #[.agg cs, v]) w := by
  have hp' : tmps[p]?.getD undef = .pointer (some ⟨g, 0, none⟩) := by simpa using hp
  have hq' : tmps[q]?.getD undef = .pointer (some ⟨g', 0, none⟩) := by simpa using hq
  simp [results, h, hp', hq', asAddr, run_loadVar_row w g t ty cs fr d hg hu hd hi, hv, Sem.run_bind, Result.andThen]

theorem row_far {w : World} {g h o : Nat} {x : Value} (hne : h ≠ g) : (w.setCell ⟨h, o, none⟩ x).heap[g]? = w.heap[g]? := by
  simp only [World.setCell, Array.getElem?_modify]
  rw [if_neg hne]

end Go.Proofs.YtjjolcjeiogdmabGreatDoor

/- The contracts of the thin package: FixAbs. -/
namespace Go.Proofs.YtjjolcjeiogdmabGreatDoor
open Go.RowKit

end Go.Proofs.YtjjolcjeiogdmabGreatDoor

/- The contracts of govalues' decimals: CopySign. -/
namespace Go.Proofs.YtjjolcjeiogdmabGreatDoor
open Go.RowKit

end Go.Proofs.YtjjolcjeiogdmabGreatDoor

/- The contracts of the thin package: FixCopySign. -/
namespace Go.Proofs.YtjjolcjeiogdmabGreatDoor
open Go.RowKit

end Go.Proofs.YtjjolcjeiogdmabGreatDoor

/- The contracts of govalues' whole numbers of 64 bits: prec, ntz; and the laws of digits and of zeros at the end. -/
namespace Go.Proofs.YtjjolcjeiogdmabGreatDoor
open Go.RowKit

def trimN : Nat → Nat → Nat
  | 0, _ => 0
  | s+1, c => if c % 10 = 0 then trimN s (c/10) else s+1

theorem trimN_zero : ∀ s, trimN s 0 = 0
  | 0 => rfl
  | s+1 => by simp [trimN, trimN_zero s]

theorem trimN_ntz : ∀ (s c k : Nat), 10^k ∣ c → ¬ 10^(k+1) ∣ c → trimN s c = s - k
  | 0, c, k, _, _ => by simp [trimN]
  | s+1, c, 0, _, h => by
    have : ¬ c % 10 = 0 := fun e => h (by simpa using Nat.dvd_of_mod_eq_zero e)
    simp [trimN, this]
  | s+1, c, k+1, h1, h2 => by
    obtain ⟨m, rfl⟩ := h1
    have e : 10 ^ (k+1) * m = 10 * (10 ^ k * m) := by rw [Nat.pow_succ, Nat.mul_comm (10^k) 10, Nat.mul_assoc]
    have h3 : (10 ^ (k+1) * m) % 10 = 0 := by rw [e]; exact Nat.mul_mod_right ..
    have h4 : (10 ^ (k+1) * m) / 10 = 10 ^ k * m := by rw [e]; exact Nat.mul_div_cancel_left _ (by decide)
    have h5 : ¬ 10^(k+1) ∣ 10^k * m := by
      intro ⟨j, hj⟩
      refine h2 ⟨j, ?_⟩
      rw [e, hj, Nat.pow_succ 10 (k+1), Nat.mul_comm (10^(k+1)) 10, Nat.mul_assoc]
    have := trimN_ntz s (10^k * m) k ⟨m, rfl⟩ h5
    simp only [trimN, h3, if_true, h4]
    omega

theorem trimN_le : ∀ s c, trimN s c ≤ s
  | 0, _ => Nat.le_refl _
  | s+1, c => by
    have := trimN_le s (c/10)
    simp only [trimN]; split <;> omega

theorem pow_le_of_dvd {k c : Nat} (h : 10^k ∣ c) (hc : 0 < c) : 10^k ≤ c := Nat.le_of_dvd hc h
theorem dvd_iff_mod (k c : Nat) : 10^k ∣ c ↔ c % 10^k = 0 := Nat.dvd_iff_mod_eq_zero ..
theorem pow_dvd_le {i j c : Nat} (h : i ≤ j) (hd : 10^j ∣ c) : 10^i ∣ c := Nat.dvd_trans (Nat.pow_dvd_pow 10 h) hd

/-- p is how many decimal digits c has; 0 for 0 -/
def IsPrec (c p : Nat) : Prop := c < 10 ^ p ∧ (0 < p → 10 ^ (p - 1) ≤ c)

theorem IsPrec.lt_iff {c p m : Nat} (h : IsPrec c p) : c < 10 ^ m ↔ p ≤ m := by
  refine ⟨fun h1 => ?_, fun h1 => Nat.lt_of_lt_of_le h.1 (Nat.pow_le_pow_right (by decide) h1)⟩
  refine Nat.le_of_not_lt fun h2 => ?_
  have h3 := h.2 (by omega)
  have h4 : 10 ^ m ≤ 10 ^ (p - 1) := Nat.pow_le_pow_right (by decide) (by omega)
  omega

theorem IsPrec.unique {c p q : Nat} (h : IsPrec c p) (k : IsPrec c q) : p = q :=
  Nat.le_antisymm (h.lt_iff.1 k.1) (k.lt_iff.1 h.1)

theorem isPrec_ex : ∀ (n c : Nat), c < 10 ^ n → ∃ p, p ≤ n ∧ IsPrec c p
  | 0, c, h => ⟨0, Nat.le_refl _, h, fun h => absurd h (by decide)⟩
  | n+1, c, h => by
    by_cases h1 : c < 10 ^ n
    · obtain ⟨p, h2, h3⟩ := isPrec_ex n c h1
      exact ⟨p, by omega, h3⟩
    · exact ⟨n+1, Nat.le_refl _, h, fun _ => by simpa using Nat.le_of_not_lt h1⟩

theorem isNtz_ex : ∀ (n c : Nat), 0 < c → c < 10 ^ n → ∃ k, 10 ^ k ∣ c ∧ ¬ 10 ^ (k+1) ∣ c
  | 0, c, h0, h => by simp at h; omega
  | n+1, c, h0, h => by
    by_cases h1 : 10 ∣ c
    · obtain ⟨m, rfl⟩ := h1
      obtain ⟨k, h2, h3⟩ := isNtz_ex n m (by omega) (by rw [Nat.pow_succ] at h; omega)
      refine ⟨k+1, ?_, ?_⟩
      · rw [Nat.pow_succ, Nat.mul_comm]; exact Nat.mul_dvd_mul_left 10 h2
      · intro h4
        apply h3
        rw [Nat.pow_succ, Nat.mul_comm] at h4
        exact Nat.dvd_of_mul_dvd_mul_left (by decide) h4
    · exact ⟨0, by simp, by simpa using h1⟩
theorem ntz_iff {c k m : Nat} (h1 : 10^k ∣ c) (h2 : ¬ 10^(k+1) ∣ c) : c % 10 ^ m = 0 ↔ m ≤ k := by
  rw [← Nat.dvd_iff_mod_eq_zero]
  refine ⟨fun h => Nat.le_of_not_lt fun h3 => h2 (Nat.dvd_trans (Nat.pow_dvd_pow 10 h3) h), fun h => Nat.dvd_trans (Nat.pow_dvd_pow 10 h) h1⟩

/-- the table of the powers of ten holds what it is laid -/
def Pow10s (w : World) : Prop := ∀ i : Nat, i < 20 → w.cell? ⟨3, i, none⟩ = some (.int .u64 ((10 ^ i : Nat) : Int))

theorem Pow10s.fresh {w w' : World} (h : Pow10s w) (hk : Fresh w w') : Pow10s w' := fun i hi => cell_fresh (h i hi) hk

theorem half_sum (a b : Nat) : Int.tdiv ((a : Int) + (b : Int)) 2 = (((a + b) / 2 : Nat) : Int) := by
  rw [Int.tdiv_eq_ediv_of_nonneg (by omega)]; omega

set_option maxRecDepth 20000 in
theorem prec_any (c p : Nat) (w : World) (hP : Pow10s w) (hc : c < 18446744073709551616) (hp : IsPrec c p) :
    Calls Tryz.prog 52 #[.int .u64 c] w (VRet w (.int .i64 p)) := by
  have hp20 : p ≤ 20 := hp.lt_iff.1 (by omega)
  have H_hP := Lib.hid hP; clear hP
  have H_hp := Lib.hid hp; clear hp
  go_enter Tryz.func52, Tryz.ntmps52
  go_wp2_with (fail)
  go_loop [3, 4] (fun l r => ∃ a b : Nat, a ≤ p ∧ p ≤ b ∧ b ≤ 20 ∧ l = .int .i64 a ∧ r = .int .i64 b) (fun l r => (intOf r).toNat - (intOf l).toNat)
  case atStart => exact ⟨0, 20, by omega, hp20, by omega, rfl, rfl⟩
  case round =>
    obtain ⟨a, b, ha, hb, hb2, rfl, rfl⟩ := hrel
    by_cases hlt : a < b
    · have t1 : decide ((a : Int) < (b : Int)) = true := by simp; omega
      have hq := half_sum a b
      obtain ⟨m, hm⟩ : ∃ m, m = (a + b) / 2 := ⟨_, rfl⟩
      rw [← hm] at hq
      have hm1 : a ≤ m := by omega
      have hm2 : m < b := by omega
      have hcell := H_hP.out m (by omega)
      have hiff := H_hp.out.lt_iff (m := m)
      generalize 10 ^ m = x at hcell hiff
      clear hm
      by_cases hle : p ≤ m
      · have hcx : c < x := hiff.2 hle
        have t2 : decide ((c : Int) < (x : Int)) = true := by simp; omega
        clear hiff
        go_wp2_with (fail)
        go_round
        case rel => exact ⟨a, m, ha, hle, by omega, rfl, rfl⟩
        case measure => simp [intOf]; omega
      · have hcx : ¬ c < x := fun h => hle (hiff.1 h)
        have t2 : decide ((c : Int) < (x : Int)) = false := by simp; omega
        clear hiff
        go_wp2_with (fail)
        go_round
        case rel => exact ⟨m + 1, b, by omega, hb, hb2, by simp, rfl⟩
        case measure => simp [intOf]; omega
    · obtain rfl : a = b := by omega
      obtain rfl : a = p := by omega
      have t1 : decide ((a : Int) < (a : Int)) = false := by simp
      go_wp2_with (fail)
      go_ret
      exact ⟨rfl, Keep.refl _ _⟩

set_option maxRecDepth 20000 in
theorem ntz_any (c k : Nat) (w : World) (hP : Pow10s w) (hc : c < 18446744073709551616) (h0 : 0 < c) (hd : 10 ^ k ∣ c) (hn : ¬ 10 ^ (k + 1) ∣ c) :
    Calls Tryz.prog 54 #[.int .u64 c] w (VRet w (.int .i64 k)) := by
  obtain ⟨p, hp20, hp⟩ := isPrec_ex 20 c (by omega)
  have hkp : k < p := by
    have h1 := pow_le_of_dvd hd h0
    have h2 := hp.lt_iff (m := k)
    omega
  have hiff := fun m => ntz_iff (m := m) hd hn
  have H_hP := Lib.hid hP; clear hP
  have H_hp := Lib.hid hp; clear hp
  have H_hd := Lib.hid hd; clear hd
  have H_hn := Lib.hid hn; clear hn
  have H_hiff := Lib.hid hiff; clear hiff
  go_enter Tryz.func54, Tryz.ntmps54
  go_wp2_with (fail)
  refine (prec_any c p _ H_hP.out hc H_hp.out).mono ?_
  rintro e w2 ⟨rfl, hf⟩
  have H_hP2 := Lib.hid (H_hP.out.fresh hf)
  have H_hf := Lib.hid hf; clear hf
  go_wp2_with (fail)
  go_loop [3, 4] (fun l r => ∃ a b : Nat, 1 ≤ a ∧ a ≤ k + 1 ∧ k + 1 ≤ b ∧ b ≤ 20 ∧ l = .int .i64 a ∧ r = .int .i64 b) (fun l r => (intOf r).toNat - (intOf l).toNat)
  case atStart => exact ⟨1, p, by omega, by omega, by omega, by omega, rfl, rfl⟩
  case round =>
    obtain ⟨a, b, ha1, ha, hb, hb2, rfl, rfl⟩ := hrel
    by_cases hlt : a < b
    · have t1 : decide ((a : Int) < (b : Int)) = true := by simp; omega
      have hq := half_sum a b
      obtain ⟨m, hm⟩ : ∃ m, m = (a + b) / 2 := ⟨_, rfl⟩
      rw [← hm] at hq
      have hm1 : a ≤ m := by omega
      have hm2 : m < b := by omega
      have hcell := H_hP2.out m (by omega)
      have hi := H_hiff.out m
      have hx0 : 0 < 10 ^ m := Nat.pow_pos (by omega)
      generalize 10 ^ m = x at hcell hi hx0
      clear hm
      have t0 : ((x : Int) == 0) = false := by rw [beq_eq_false_iff_ne]; omega
      have hr : Int.tmod (c : Int) (x : Int) = ((c % x : Nat) : Int) := by rw [Int.tmod_eq_emod_of_nonneg (by omega)]; rfl
      have hrlt : c % x ≤ c := Nat.mod_le _ _
      by_cases hle : m ≤ k
      · have h3 : c % x = 0 := hi.2 hle
        rw [h3] at hr hrlt
        clear hi h3
        go_wp2_with (fail)
        go_round
        case rel => exact ⟨m + 1, b, by omega, by omega, hb, hb2, by simp, rfl⟩
        case measure => simp [intOf]; omega
      · have h3 : ¬ c % x = 0 := fun h => hle (hi.1 h)
        generalize c % x = y at *
        have t2 : ((y : Int) == 0) = false := by rw [beq_eq_false_iff_ne]; omega
        clear hi
        go_wp2_with (fail)
        go_round
        case rel => exact ⟨a, m, ha1, ha, by omega, by omega, rfl, rfl⟩
        case measure => simp [intOf]; omega
    · obtain rfl : a = b := by omega
      obtain rfl : a = k + 1 := by omega
      have t1 : decide (((k + 1 : Nat) : Int) < ((k + 1 : Nat) : Int)) = false := by simp
      go_wp2_with (fail)
      go_ret
      exact ⟨by simp, H_hf.out⟩

end Go.Proofs.YtjjolcjeiogdmabGreatDoor

/- What the rows of the laws on govalues' decimals share: the arguments opened and shut, the laid table of powers of ten, the door's world. -/
namespace Go.Proofs.YtjjolcjeiogdmabGreatDoor
open Go Go.ChangeShapes Go.WideShapes Go.ChangeAt Go.RowKit Go.Lib Go.Joins

theorem rw_own : ownKnob Tryz.prog.godebug = none := by kernel_rfl
theorem rw_laidOut : laidOutB Tryz.prog = true := by kernel_rfl

theorem i64_wf {n : Int} (h : (Lit.int .i64 n).wf = true) : -9223372036854775808 ≤ n ∧ n ≤ 9223372036854775807 := by
  have e1 : IntKind.i64.min = -9223372036854775808 := by decide
  have e2 : IntKind.i64.max = 9223372036854775807 := by decide
  simp only [Lit.wf, Bool.and_eq_true, decide_eq_true_eq, e1, e2] at h
  exact h
theorem u64_wf {n : Int} (h : (Lit.int .u64 n).wf = true) : 0 ≤ n ∧ n ≤ 18446744073709551615 := by
  have e1 : IntKind.u64.min = 0 := by decide
  have e2 : IntKind.u64.max = 18446744073709551615 := by decide
  simp only [Lit.wf, Bool.and_eq_true, decide_eq_true_eq, e1, e2] at h
  exact h

variable {H : Type} {enc : TypeId × Value → H}

set_option maxRecDepth 100000 in
/-- a decimal of the thin package that came in -/
theorem open_fix {w : World} {r : Reach} {b0 base : Nat} {spare : Nat → Bool} {held : Bool} {v : Value} {d : DataW H} {p : List MemPlace} (hv : Value.okWide Tryz.prog w r b0 24 v) (h : DataW.Trod enc Tryz.prog w base spare held 24 v d p) :
    ∃ (n : Bool) (c : Nat) (s : Int), v = .agg #[.bool n, .int .u64 c, .int .i64 s] ∧ c < 18446744073709551616 ∧ d = .agg [.lit (.bool n), .lit (.int .u64 c), .lit (.int .i64 s)] ∧ p = [] ∧ (Lit.int .u64 (c : Int)).wf = true ∧ (Lit.int .i64 s).wf = true := by
  obtain ⟨v0, v1, v2, y0, y1, y2, n, rfl, rfl, rfl, h0, h1, h2⟩ := open_agg3 Tryz.underlying24 (by kernel_rfl) (by kernel_rfl) hv h
  obtain ⟨b, e0, rfl⟩ := DataW.trod_bool Tryz.underlying4 h0
  obtain ⟨c, e1, rfl, w1⟩ := DataW.trod_int Tryz.underlying22 h1
  obtain ⟨s, e2, rfl, w2⟩ := DataW.trod_int Tryz.underlying3 h2
  simp at e0 e1 e2
  subst e0 e1 e2
  have hc := u64_wf w1
  obtain ⟨c', rfl⟩ := Int.eq_ofNat_of_zero_le hc.1
  exact ⟨b, c', s, rfl, by omega, rfl, rfl, w1, w2⟩

set_option maxRecDepth 100000 in
theorem shut_fix {w : World} {base : Nat} {spare : Nat → Bool} {held : Bool} (n : Bool) {c s : Int} (h1 : (Lit.int .u64 c).wf = true) (h2 : (Lit.int .i64 s).wf = true) :
    DataW.Trod enc Tryz.prog w base spare held 24 (.agg #[.bool n, .int .u64 c, .int .i64 s]) (.agg [.lit (.bool n), .lit (.int .u64 c), .lit (.int .i64 s)]) [] :=
  shut_agg3 (y0 := (.lit (.bool n), [])) (y1 := (.lit (.int .u64 c), [])) (y2 := (.lit (.int .i64 s), [])) Tryz.underlying24 (by kernel_rfl) (by kernel_rfl) (shut_bool Tryz.underlying4 n) (shut_int Tryz.underlying22 h1) (shut_int Tryz.underlying3 h2)

theorem trodVars_length {P : Program} {w : World} {sp : Nat → Bool} : ∀ {ns : List String} {gs : List (DataW H)} {ps : List MemPlace}, DataW.TrodVars enc P w sp ns gs ps → gs.length = ns.length
  | [], [], _, _ => rfl
  | [], _ :: _, _, h => h.elim
  | _ :: _, [], _, h => h.elim
  | _ :: ns, _ :: gs, _, h => by
    obtain ⟨_, _, _, _, _, _, _, _, _, _, h, _⟩ := h
    simp [trodVars_length h]

theorem pow10_data : (∀ {H : Type}, (Rows.laid_given_example_pub_alexandrine_pub_govalues_pow10 : DataW H) = tabData .u64 ((List.range 20).map fun i => ((10 ^ i : Nat) : Int))) := fun {H} => by rfl

theorem pow10s_of {W : World} {rest : List (String × DataW Unit)} (h : laidMet Tryz.prog (("given.example/pub-alexandrine/pub/govalues.pow10", Rows.laid_given_example_pub_alexandrine_pub_govalues_pow10) :: rest) W) : Pow10s W := by
  rw [pow10_data] at h
  have hg : Tryz.prog.globalNamed "given.example/pub-alexandrine/pub/govalues.pow10" = some 3 := by kernel_rfl
  have ht := tabIs_of_head hg (t := 102) (by kernel_rfl) Tryz.underlying102 Tryz.underlying38 (by kernel_rfl) (by kernel_rfl) h
  intro i hi
  have := ht.cell hg i (by simpa using hi)
  rw [this]
  simp [List.getD, hi]

end Go.Proofs.YtjjolcjeiogdmabGreatDoor

/- The contracts of the reference: natShort, Trim. -/
namespace Go.Proofs.YtjjolcjeiogdmabGreatDoor
open Go.RowKit

/-- one step of a short division -/
theorem short_step {b Q r S x : Nat} (h : S = b * Q + r) :
    x + 1000000000 * S = b * (((r * 1000000000 + x) / b) + 1000000000 * Q) + (r * 1000000000 + x) % b := by
  have h1 := Nat.div_add_mod (r * 1000000000 + x) b
  generalize (r * 1000000000 + x) / b = d at *
  generalize (r * 1000000000 + x) % b = m at *
  subst h
  grind

theorem short_lim {b r x : Nat} (hb : 0 < b) (hr : r < b) (hx : x < 1000000000) : (r * 1000000000 + x) / b < 1000000000 := by
  rw [Nat.div_lt_iff_lt_mul hb]
  have : (r + 1) * 1000000000 ≤ b * 1000000000 := Nat.mul_le_mul_right _ hr
  omega

theorem short_room {b r x : Nat} (hb : b ≤ 1000000000) (hr : r < b) (hx : x < 1000000000) : r * 1000000000 + x < 1000000000000000000 := by
  have : r * 1000000000 ≤ 999999999 * 1000000000 := Nat.mul_le_mul_right _ (by omega)
  omega

theorem rep_set_cons (q x : Nat) (Q : List Nat) : (List.replicate (q + 1) 0 ++ Q).set q x = List.replicate q 0 ++ x :: Q := by
  rw [List.set_append_left _ _ (by simp), rep_set, List.append_assoc]; rfl

theorem drop_cons_getD {l : List Nat} {k : Nat} (h : k < l.length) : l.drop k = l.getD k 0 :: l.drop (k + 1) := by
  rw [List.drop_eq_getElem_cons h]; simp [List.getD, h]

set_option maxRecDepth 20000 in
set_option maxHeartbeats 1000000 in
theorem natShort_any (v : Value) (l : List Nat) (b : Nat) (w : World) (h : SNat w v l) (hlen : l.length ≤ 1000000) (hb0 : 0 < b) (hb : b ≤ 1000000000) :
    Calls Tryz.prog 49 #[v, .int .u32 b] w (fun e w' => ∃ q m, e = .returned (.tuple #[q, .int .u32 (sval l % b : Nat)]) ∧ SNat w' q m ∧ Norm m ∧ sval m = sval l / b ∧ Fresh w w') := by
  obtain ⟨a, c, rfl⟩ := h.form
  obtain ⟨n, hn⟩ : ∃ n, n = l.length := ⟨_, rfl⟩
  rw [← hn] at h hlen ⊢
  obtain ⟨o, ho, mk⟩ := make_u32 n w (by omega)
  have t0 : ((b : Int) == 0) = false := by rw [beq_eq_false_iff_ne]; omega
  have H_h := Lib.hid h; clear h
  have H_hn := Lib.hid hn; clear hn
  go_enter Tryz.func49, Tryz.ntmps49
  go_wp2_with (fail)
  go_loopw [7, 8] (fun rv i wr => ∃ (k r : Nat) (Q : List Nat), k ≤ n ∧ i = .int .i64 ((k : Int) - 1) ∧ rv = .int .u64 r ∧ r < b ∧ Hid (Q.length = n - k) ∧ Hid (Lim Q) ∧ Hid (sval (l.drop k) = b * sval Q + r) ∧ Hid (Blk .u32 wr w.heap.size (List.replicate k 0 ++ Q)) ∧ Hid (Fresh w wr)) (fun _ i _ => (intOf i + 1).toNat)
  case atStart =>
    refine ⟨n, 0, [], Nat.le_refl _, rfl, rfl, hb0, Lib.hid (by simp), Lim.nil, Lib.hid (by rw [List.drop_of_length_le (by have := H_hn.out; omega)]; simp [sval]), Lib.hid (by rw [List.append_nil]; exact ho.out), (Keep.refl _ _).alloc o⟩
  case round =>
    obtain ⟨k, r, Q, hk, rfl, rfl, hr, hQl, hQlim, hQv, hblk, hfr⟩ := hrel
    by_cases hk0 : k = 0
    · subst hk0
      have e0 : List.replicate 0 0 ++ Q = Q := by simp
      have hbk := hblk.out
      rw [e0] at hbk
      have hs := SNat.of_blk hbk hQlim.out (by have := hQl.out; omega)
      rw [show Q.length = n by have := hQl.out; omega] at hs
      have hcall := natTrim_any _ _ _ hs
      have hv : sval l = b * sval Q + r := by have := hQv.out; simpa using this
      have H_hcall := Lib.hid hcall; clear hcall
      have H_hv := Lib.hid hv; clear hv
      clear hbk hs e0
      go_wp2_with (fail)
      refine H_hcall.out.mono ?_
      rintro e w2 ⟨v, m, rfl, h1, h2, h3, h4⟩
      have H_h1 := Lib.hid h1; clear h1
      have H_h2 := Lib.hid h2; clear h2
      have H_h3 := Lib.hid h3; clear h3
      have H_h4 := Lib.hid h4; clear h4
      go_wp2_with (fail)
      go_ret2
      have h5 := H_hv.out
      have h6 : sval l / b = sval Q ∧ sval l % b = r := by
        rw [h5]
        exact ⟨by rw [Nat.mul_add_div hb0, Nat.div_eq_of_lt hr, Nat.add_zero], by rw [Nat.mul_add_mod, Nat.mod_eq_of_lt hr]⟩
      exact ⟨v, m, by rw [h6.2]; rfl, H_h1.out, H_h2.out, by rw [H_h3.out, h6.1], hfr.out.trans H_h4.out (fun _ _ h => h) (fun _ _ h => h)⟩
    · obtain ⟨j, rfl⟩ : ∃ j, k = j + 1 := ⟨k - 1, by omega⟩
      obtain ⟨gx, rfl, hcx, hgx, hcells⟩ := (H_h.out.fresh hfr.out).cells H_hn.out (by omega)
      have hxj := hcells j (by omega)
      have hxlim := H_h.out.lim.getD j
      obtain ⟨x, hxx⟩ : ∃ x, x = l.getD j 0 := ⟨_, rfl⟩
      rw [← hxx] at hxj hxlim
      have b1 := short_lim hb0 hr hxlim
      have b2 := short_room hb hr hxlim
      have hL : (List.replicate (j + 1) 0 ++ Q).length = n := by have := hQl.out; simp; omega
      have hcell := hblk.out.cell (o := j) (by rw [hL]; omega)
      have hfroz := hblk.out.frozen j
      generalize (List.replicate (j + 1) 0 ++ Q).getD j 0 = z9 at hcell
      have hset := hblk.out.set j ((r * 1000000000 + x) / b)
      rw [rep_set_cons] at hset
      have hstep := short_step (b := b) (x := x) hQv.out
      have hv' : sval (l.drop j) = x + 1000000000 * sval (l.drop (j + 1)) := by rw [drop_cons_getD (by have := H_hn.out; omega), ← hxx]; rfl
      rw [← hv'] at hstep
      have hm : (r * 1000000000 + x) % b < b := Nat.mod_lt _ hb0
      have hcast : (r : Int) * 1000000000 + (x : Int) = ((r * 1000000000 + x : Nat) : Int) := by omega
      have hq2 : Int.tdiv ((r : Int) * 1000000000 + (x : Int)) (b : Int) = (((r * 1000000000 + x) / b : Nat) : Int) := by rw [hcast, Int.tdiv_eq_ediv_of_nonneg (by omega)]; rfl
      have hr2 : Int.tmod ((r : Int) * 1000000000 + (x : Int)) (b : Int) = (((r * 1000000000 + x) % b : Nat) : Int) := by rw [hcast, Int.tmod_eq_emod_of_nonneg (by omega)]; rfl
      generalize (r * 1000000000 + x) / b = q1 at *
      generalize (r * 1000000000 + x) % b = r1 at *
      have H_hcells := Lib.hid hcells; clear hcells
      have H_hxx := Lib.hid hxx; clear hxx
      have H_hL := Lib.hid hL; clear hL
      have H_hv' := Lib.hid hv'; clear hv'
      have H_hset := Lib.hid hset; clear hset
      have H_hstep := Lib.hid hstep; clear hstep
      clear hcast
      go_wp2_with (fail)
      go_roundw
      case rel =>
        refine ⟨j, r1, q1 :: Q, by omega, rfl, rfl, hm, Lib.hid (by have := hQl.out; simp; omega), ?_, H_hstep, H_hset, Lib.hid (hfr.out.setCell (fun h => absurd h (Nat.lt_irrefl _)) _)⟩
        intro z hz
        rcases List.mem_cons.1 hz with h1 | h1
        · omega
        · exact hQlim.out z h1
      case measure => simp [intOf]

end Go.Proofs.YtjjolcjeiogdmabGreatDoor

/- The plain laws of sums, differences and quotients of numbers of limbs. -/
namespace Go.Proofs.YtjjolcjeiogdmabGreatDoor
open Go.RowKit

/-- a number without limbs of 0 at its end is one by its value -/
theorem norm_of_ge {l : List Nat} (hl : Lim l) (h : ∀ k, l.length = k + 1 → spow k ≤ sval l) : Norm l := by
  intro k hk h0
  have h1 := sval_take_succ (l := l) (k := k) (by omega)
  rw [← hk, List.take_length, h0] at h1
  have h2 := sval_lt (hl.take k)
  rw [List.length_take, Nat.min_eq_left (by omega)] at h2
  have := h k hk
  omega

theorem sval_take_succ' (l : List Nat) (k : Nat) : sval (l.take (k + 1)) = sval (l.take k) + spow k * l.getD k 0 := by
  by_cases h : k < l.length
  · exact sval_take_succ h
  · rw [List.take_of_length_le (by omega), List.take_of_length_le (by omega)]
    simp [List.getD, List.getElem?_eq_none (Nat.le_of_not_lt h)]

/-- one step of a sum -/
theorem add_step {O S c X Y x y t : Nat} (h : O + S * c = X + Y) (ht : t = c + x + y) :
    (O + S * (t % 1000000000)) + 1000000000 * S * (t / 1000000000) = (X + S * x) + (Y + S * y) := by
  have h1 := Nat.div_add_mod t 1000000000
  generalize t / 1000000000 = d at *
  generalize t % 1000000000 = m at *
  have : S * (1000000000 * d + m) = S * (c + x + y) := by rw [h1, ht]
  grind

/-- one step of a difference: nothing is borrowed -/
theorem sub_step0 {O S b X Y x y : Nat} (h : X + S * b = O + Y) (hy : b + y ≤ x) : (X + S * x) + 1000000000 * S * 0 = (O + S * (x - (b + y))) + (Y + S * y) := by
  have : S * x = S * (x - (b + y)) + S * (b + y) := by rw [← Nat.mul_add]; congr 1; omega
  rw [this, Nat.mul_add]
  omega

/-- one step of a difference: one is borrowed -/
theorem sub_step1 {O S b X Y x y : Nat} (h : X + S * b = O + Y) (hy : b + y ≤ x + 1000000000) : (X + S * x) + 1000000000 * S * 1 = (O + S * (x + 1000000000 - (b + y))) + (Y + S * y) := by
  have h1 : S * (x + 1000000000) = S * (x + 1000000000 - (b + y)) + S * (b + y) := by rw [← Nat.mul_add]; congr 1; omega
  have h2 : 1000000000 * S * 1 = S * 1000000000 := by rw [Nat.mul_one, Nat.mul_comm]
  rw [h2]
  rw [Nat.mul_add, Nat.mul_add] at h1
  omega

/-- a guess by the highest limbs is not less than the digit -/
theorem guess_ge {r y k top yt : Nat} (hr : r < (top + 1) * spow k) (hy : yt * spow k ≤ y) (ht : 0 < yt) (hlim : r < 1000000000 * y) :
    r / y ≤ min (top / yt) 999999999 := by
  have hy0 : 0 < y := Nat.lt_of_lt_of_le (Nat.mul_pos ht (spow_pos k)) hy
  have h1 : r / y < 1000000000 := by rw [Nat.div_lt_iff_lt_mul hy0]; exact hlim
  have h2 : r / y ≤ top / yt := by
    rw [Nat.le_div_iff_mul_le ht]
    have h3 : r / y * y ≤ r := Nat.div_mul_le_self r y
    have h4 : r / y * (yt * spow k) ≤ r / y * y := Nat.mul_le_mul_left _ hy
    have h5 : r / y * yt * spow k < (top + 1) * spow k := by rw [Nat.mul_assoc]; omega
    have h6 := Nat.lt_of_mul_lt_mul_right h5
    omega
  omega

/-- one digit of a long division -/
theorem long_step {S y Q r x d r' : Nat} (h : S = y * Q + r) (hd : d = (x + 1000000000 * r) / y) (hr' : r' = (x + 1000000000 * r) - y * d) (hy : 0 < y) :
    x + 1000000000 * S = y * (d + 1000000000 * Q) + r' ∧ r' < y := by
  have h1 := Nat.div_add_mod (x + 1000000000 * r) y
  have h2 := Nat.mod_lt (x + 1000000000 * r) hy
  rw [← hd] at h1
  generalize hR : x + 1000000000 * r = R at *
  have e : r' = R % y := by omega
  constructor
  · subst h
    have : y * (d + 1000000000 * Q) = y * d + 1000000000 * (y * Q) := by rw [Nat.mul_add, Nat.mul_left_comm]
    omega
  · omega

/-- what the scaling leaves -/
theorem scaled_div {a b t q r : Nat} (h : a * t = b * t * q + r) (hr : r < b * t) (ht : 0 < t) : a = b * q + r / t ∧ r / t < b := by
  have hd : t ∣ r := by
    have h1 : t ∣ a * t := ⟨a, Nat.mul_comm _ _⟩
    have h2 : t ∣ b * t * q := ⟨b * q, by rw [Nat.mul_comm b t, Nat.mul_assoc]⟩
    rw [h] at h1
    exact (Nat.dvd_add_right h2).1 h1
  obtain ⟨c, rfl⟩ := hd
  have hc : t * c / t = c := Nat.mul_div_cancel_left c ht
  rw [hc]
  constructor
  · have : t * a = t * (b * q + c) := by rw [Nat.mul_comm t a, h, Nat.mul_add]; congr 1; rw [Nat.mul_comm b t, Nat.mul_assoc]
    exact Nat.eq_of_mul_eq_mul_left ht this
  · rw [Nat.mul_comm b t] at hr
    exact Nat.lt_of_mul_lt_mul_left hr

end Go.Proofs.YtjjolcjeiogdmabGreatDoor
