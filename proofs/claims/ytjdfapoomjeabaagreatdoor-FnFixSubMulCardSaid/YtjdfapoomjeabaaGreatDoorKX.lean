/- What is needed besides. -/
import Derived.Test.YtjdfapoomjeabaaGreatDoorK1
import Derived.Test.YtjdfapoomjeabaaGreatDoorK2
import Derived.Test.YtjdfapoomjeabaaGreatDoorK3
import Derived.Test.YtjdfapoomjeabaaGreatDoorK4
import Derived.Test.YtjdfapoomjeabaaGreatDoorK5
import Derived.Test.YtjdfapoomjeabaaGreatDoorK6
import Derived.Test.YtjdfapoomjeabaaGreatDoorK7
import Derived.Test.YtjdfapoomjeabaaGreatDoorK8
import Derived.Test.YtjdfapoomjeabaaGreatDoorK9
import Derived.Test.YtjdfapoomjeabaaGreatDoorK10
import Derived.Test.YtjdfapoomjeabaaGreatDoorK11
import Derived.Test.YtjdfapoomjeabaaGreatDoorK12
import Derived.Test.YtjdfapoomjeabaaGreatDoorK13
import Derived.Test.YtjdfapoomjeabaaGreatDoorK14
import Derived.Test.YtjdfapoomjeabaaGreatDoorK15
import Derived.Test.YtjdfapoomjeabaaGreatDoorK16
import Derived.Test.YtjdfapoomjeabaaGreatDoorK17
import Derived.Test.YtjdfapoomjeabaaGreatDoorK18
import Derived.Test.YtjdfapoomjeabaaGreatDoorK19
import Derived.Test.YtjdfapoomjeabaaGreatDoorK20
import Derived.Test.YtjdfapoomjeabaaGreatDoorK21
import Derived.Test.YtjdfapoomjeabaaGreatDoorK22
import Derived.Test.YtjdfapoomjeabaaGreatDoorK33
import Derived.Test.YtjdfapoomjeabaaGreatDoorK34
import Derived.Test.YtjdfapoomjeabaaGreatDoorK35
import Derived.Test.YtjdfapoomjeabaaGreatDoorK36
import Derived.Test.YtjdfapoomjeabaaGreatDoorK37
import Derived.Test.YtjdfapoomjeabaaGreatDoorK38
import Derived.Test.YtjdfapoomjeabaaGreatDoorK39
import Derived.Test.YtjdfapoomjeabaaGreatDoorK40
import Derived.Test.YtjdfapoomjeabaaGreatDoorK44
import Derived.Test.YtjdfapoomjeabaaGreatDoorK48
import Derived.Test.YtjdfapoomjeabaaGreatDoorK55
import Derived.Test.YtjdfapoomjeabaaGreatDoorK77
import Derived.Test.YtjdfapoomjeabaaGreatDoorK78
import Derived.Test.YtjdfapoomjeabaaGreatDoorK79
import Derived.Test.YtjdfapoomjeabaaGreatDoorK80
import Derived.Test.YtjdfapoomjeabaaGreatDoorK81
import Derived.Test.YtjdfapoomjeabaaGreatDoorK82
import Derived.Test.YtjdfapoomjeabaaGreatDoorK83
import Derived.Test.YtjdfapoomjeabaaGreatDoorK84
import Derived.Test.YtjdfapoomjeabaaGreatDoorK85
import Derived.Test.YtjdfapoomjeabaaGreatDoorK86
import Derived.Test.YtjdfapoomjeabaaGreatDoorK87
import Derived.Test.YtjdfapoomjeabaaGreatDoorK88
namespace Go.Proofs.YtjdfapoomjeabaaGreatDoor
open Go.RowKit

set_option maxRecDepth 20000 in
set_option maxHeartbeats 2000000 in
theorem Neg_any (neg : Bool) (s c : Nat) (w : World) (hs : s ≤ 19) :
    Calls Tryz.prog 81 #[gd neg s c] w (VRet w (gd (!neg && decide (0 < c)) s c)) := by
  obtain ⟨g, hg⟩ : ∃ g, g = w.heap.size := ⟨_, rfl⟩
  have bx := boxes2 w #[.bool neg, .int .i8 s, .int .u64 c] #[.bool false, .int .i8 0, .int .u64 0] 50 50 g hg
  have H_bx := Lib.hid bx; clear bx
  go_enter Tryz.func81, Tryz.ntmps81
  go_wp2_with (fail)
  generalize hw1 : (w.alloc _).alloc _ = w1
  rw [← hg]
  obtain ⟨b1, b2, hf⟩ := H_bx.out w1 hw1
  have k0 := row_cell b1 0
  have k1 := row_cell b1 1
  have k2 := row_cell b1 2
  simp at k0 k1 k2
  have H_b1 := Lib.hid b1; clear b1
  have H_b2 := Lib.hid b2; clear b2
  have H_hf := Lib.hid hf; clear hf
  have H_hw1 := Lib.hid hw1; clear hw1
  have H_hg := Lib.hid hg; clear hg
  go_region_held3 (fun (w' : World) => w'.cell? ⟨g, 0, none⟩ = some (.bool neg) ∧ w'.cell? ⟨g, 1, none⟩ = some (.int .i8 s) ∧ w'.cell? ⟨g, 2, none⟩ = some (.int .u64 c)) (first | exact ⟨k0, k1, k2⟩ | exact ⟨m0, m1, m2⟩ | exact ⟨n0, n1, n2⟩ | exact ⟨o0, o1, o2⟩ | exact ⟨far3 (by omega) o0, far3 (by omega) o1, far3 (by omega) o2⟩) (first
    | (go_at_call 68; (with_reducible refine (IsNeg_any neg s c _).mono ?_); rintro e w2 ⟨rfl, r⟩; have hf0 : Fresh w1 w2 := (by first | exact r | exact r.of_drew | exact r.of_drewN); have m0 := cell_fresh k0 hf0; have m1 := cell_fresh k1 hf0; have m2 := cell_fresh k2 hf0; have H_hf0 := Lib.hid hf0; clear hf0 r)
    | (go_at_call 70; (with_reducible refine (Scale_any neg s c _ hs).mono ?_); rintro e w3 ⟨rfl, r⟩; have hf1 : Fresh w2 w3 := r; have n0 := cell_fresh m0 hf1; have n1 := cell_fresh m1 hf1; have n2 := cell_fresh m2 hf1; have H_hf1 := Lib.hid hf1; clear hf1 r)
    | (go_at_call 96; (with_reducible refine (newUnsafe_any _ s c _ hs).mono ?_); rintro e w4 ⟨rfl, r⟩; have hf2 : Fresh w3 w4 := r; have o0 := cell_fresh n0 hf2; have o1 := cell_fresh n1 hf2; have o2 := cell_fresh n2 hf2; have hfa : Fresh w1 w4 := fresh_trans (fresh_trans (H_hf0.out) H_hf1.out) hf2; have b4 := row_fresh H_b2.out hfa; have p0 := row_cell b4 0; have p1 := row_cell b4 1; have p2 := row_cell b4 2; simp at p0 p1 p2; have q0 : w4.frozen? ⟨g + 1, 0, none⟩ = false := frozen_of_row _ _ _ _ _ b4; have q1 : w4.frozen? ⟨g + 1, 1, none⟩ = false := frozen_of_row _ _ _ _ _ b4; have q2 : w4.frozen? ⟨g + 1, 2, none⟩ = false := frozen_of_row _ _ _ _ _ b4; have H_hfa := Lib.hid hfa; have H_b4 := Lib.hid b4; clear hfa b4; have H_hf2 := Lib.hid hf2; clear hf2 r))
  go_wp2
  refine bodyPost_ret (results_cell_row rfl _ _ (g + 1) 50 #[.bool (!neg && decide (0 < c)), .int .i8 s, .int .u64 c] (0, 0) _ rfl (row_set (row_set (row_set H_b4.out))) Tryz.underlying50 rfl (by kernel_rfl)) rfl ?_
  exact ⟨rfl, (fresh_trans H_hf.out H_hfa.out).set3 (by have := H_hg.out; omega)⟩

end Go.Proofs.YtjdfapoomjeabaaGreatDoor

namespace Go.Proofs.YtjdfapoomjeabaaGreatDoor
open Go.RowKit

set_option maxRecDepth 20000 in
theorem Minus_any (neg : Bool) (v : Value) (l : List Nat) (w : World) (h : SNat w v l) :
    Calls Tryz.prog 82 #[swh neg v] w (fun e w' => e = .returned (swh (!neg && decide (0 < l.length)) v) ∧ Fresh w w') := by
  obtain ⟨a, c, rfl⟩ := h.form
  obtain ⟨g, hg⟩ : ∃ g, g = w.heap.size := ⟨_, rfl⟩
  have bx := boxes2 w #[.bool neg, .slice a l.length c] #[.bool false, .slice none 0 0] 32 32 g hg
  have H_h := Lib.hid h; clear h
  have H_bx := Lib.hid bx; clear bx
  go_enter Tryz.func82, Tryz.ntmps82
  go_wp2_with (fail)
  generalize hw1 : (w.alloc _).alloc _ = w1
  rw [← hg]
  obtain ⟨b1, b2, hf⟩ := H_bx.out w1 hw1
  refine (wholeOf_any _ _ _ _ (H_h.out.fresh hf)).mono ?_
  rintro e w2 ⟨rfl, hf2⟩
  have b3 := row_fresh b2 hf2
  have p0 := row_cell b3 0
  have p1 := row_cell b3 1
  simp at p0 p1
  have q0 : w2.frozen? ⟨g + 1, 0, none⟩ = false := frozen_of_row _ _ _ _ _ b3
  have q1 : w2.frozen? ⟨g + 1, 1, none⟩ = false := frozen_of_row _ _ _ _ _ b3
  have H_b1 := Lib.hid b1; clear b1
  have H_b2 := Lib.hid b2; clear b2
  have H_b3 := Lib.hid b3; clear b3
  have H_hf := Lib.hid hf; clear hf
  have H_hf2 := Lib.hid hf2; clear hf2
  have H_hw1 := Lib.hid hw1; clear hw1
  have H_hg := Lib.hid hg; clear hg
  go_wp2_with (fail)
  refine bodyPost_ret (results_cell_row rfl _ _ (g + 1) 32 #[.bool (!neg && decide (0 < l.length)), .slice a l.length c] (0, 0) _ rfl (row_set (row_set H_b3.out)) Tryz.underlying32 rfl (by kernel_rfl)) rfl ?_
  exact ⟨rfl, ((fresh_trans H_hf.out H_hf2.out).setCell (fun h => by have := H_hg.out; change g + 1 < w.heap.size at h; omega) _).setCell (fun h => by have := H_hg.out; change g + 1 < w.heap.size at h; omega) _⟩

end Go.Proofs.YtjdfapoomjeabaaGreatDoor

namespace Go.Proofs.YtjdfapoomjeabaaGreatDoor
open Go.RowKit

theorem sint_minus {n : Bool} {l : List Nat} (hn : Norm l) : sint (!n && decide (0 < l.length)) l = -sint n l := by
  rw [sint_canon _ hn]
  cases n <;> simp [sint]

set_option maxRecDepth 20000 in
set_option maxHeartbeats 4000000 in
theorem FracMinus_any (xa : Value) (za : Int) (da : Nat) (w : World) (ha : SFr w xa za da) :
    Calls Tryz.prog 50 #[xa] w (FRet w (-za) da) := by
  obtain ⟨na, va, la, dva, dla, rfl, ha, hna, hca, rfl, hda, hdna, rfl⟩ := ha
  obtain ⟨aa, ca, rfl⟩ := ha.form
  obtain ⟨ada, cda, rfl⟩ := hda.form
  obtain ⟨g, hg⟩ : ∃ g, g = w.heap.size := ⟨_, rfl⟩
  have bx := boxes2 w #[.bool na, .slice aa la.length ca, .slice ada dla.length cda] #[.bool false, .slice none 0 0, .slice none 0 0] 34 34 g hg
  have hmin : ∀ w1, Fresh w w1 → ∀ W, Fresh w1 W → Calls Tryz.prog 82 #[swh na (.slice aa la.length ca)] W (fun e w' => e = .returned (swh (!na && decide (0 < la.length)) (.slice aa la.length ca)) ∧ Fresh W w') := fun w1 hf W hW => Minus_any _ _ la W ((ha.fresh hf).fresh hW)
  obtain ⟨nb, hnb⟩ : ∃ b, b = (!na && decide (0 < la.length)) := ⟨_, rfl⟩
  rw [← hnb] at hmin
  have H_ha := Lib.hid ha; clear ha
  have H_hda := Lib.hid hda; clear hda
  have H_bx := Lib.hid bx; clear bx
  have H_hna := Lib.hid hna; clear hna
  have H_hca := Lib.hid hca; clear hca
  have H_hdna := Lib.hid hdna; clear hdna
  have H_hmin := Lib.hid hmin; clear hmin
  have H_hnb := Lib.hid hnb; clear hnb
  go_enter Tryz.func50, Tryz.ntmps50
  go_wp2_with (fail)
  generalize hw1 : (w.alloc _).alloc _ = w1
  rw [← hg]
  obtain ⟨b1, b2, hf⟩ := H_bx.out w1 hw1
  have k0 := row_cell b1 0
  have k1 := row_cell b1 1
  have k2 := row_cell b1 2
  simp at k0 k1 k2
  have hmin := H_hmin.out w1 hf
  clear H_hmin
  have H_b1 := Lib.hid b1; clear b1
  have H_b2 := Lib.hid b2; clear b2
  have H_hf := Lib.hid hf; clear hf
  have H_hw1 := Lib.hid hw1; clear hw1
  have H_hg := Lib.hid hg; clear hg
  have H_hmin := Lib.hid hmin; clear hmin
  go_region_held3 (fun (w' : World) => w'.cell? ⟨g, 0, none⟩ = some (.bool na) ∧ w'.cell? ⟨g, 1, none⟩ = some (.slice aa la.length ca) ∧ w'.cell? ⟨g, 2, none⟩ = some (.slice ada dla.length cda)) (first | exact ⟨k0, k1, k2⟩ | exact ⟨m0, m1, m2⟩ | exact ⟨far3 (by omega) m0, far3 (by omega) m1, far3 (by omega) m2⟩) (first
    | (go_at_call 82; (with_reducible refine (H_hmin.out _ ?c1).mono ?_); (case c1 => first | exact Keep.refl _ _ | exact (Keep.refl _ _).drew | exact (Keep.refl _ _).drewN _); rintro e w3 ⟨rfl, r2⟩; have hf3 : Fresh w1 w3 := (by first | exact r2 | exact r2.of_drew | exact r2.of_drewN); have m0 := cell_fresh k0 hf3; have m1 := cell_fresh k1 hf3; have m2 := cell_fresh k2 hf3; have b4 := row_fresh H_b2.out (hf3); have p0 := row_cell b4 0; have p1 := row_cell b4 1; have p2 := row_cell b4 2; have z0 : w3.frozen? ⟨g + 1, 0, none⟩ = false := frozen_of_row _ _ _ _ _ b4; have z1 : w3.frozen? ⟨g + 1, 1, none⟩ = false := frozen_of_row _ _ _ _ _ b4; have z2 : w3.frozen? ⟨g + 1, 2, none⟩ = false := frozen_of_row _ _ _ _ _ b4; simp at p0 p1 p2; have H_b4 := Lib.hid b4; clear b4; have H_hf3 := Lib.hid hf3; clear r2 hf3))
  go_wp2
  refine bodyPost_ret (results_cell_row rfl _ _ (g + 1) 34 #[.bool nb, .slice aa la.length ca, .slice ada dla.length cda] (0, 0) _ rfl (row_set (row_set (row_set H_b4.out))) Tryz.underlying34 rfl (by kernel_rfl)) rfl ?_
  have ha3 := (H_ha.out.fresh H_hf.out).fresh H_hf3.out
  have hda3 := (H_hda.out.fresh H_hf.out).fresh H_hf3.out
  have f1 := ha3.off p0 (fun n e => by simp at e)
  have f2 := hda3.off p0 (fun n e => by simp at e)
  exact ⟨_, rfl, ⟨nb, _, la, _, dla, rfl, ((ha3.setOff f1).setOff f1).setOff f1, H_hna.out, fun h => by rw [H_hnb.out, h]; simp, by rw [H_hnb.out]; exact sint_minus H_hna.out, ((hda3.setOff f2).setOff f2).setOff f2, H_hdna.out, rfl⟩, (fresh_trans H_hf.out H_hf3.out).set3 (by have := H_hg.out; omega)⟩

set_option maxRecDepth 20000 in
set_option maxHeartbeats 4000000 in
theorem FracSub_any (xa xb : Value) (za zb : Int) (da db : Nat) (w : World) (ha : SFr w xa za da) (hb : SFr w xb zb db) (h1 : za.natAbs < spow 1000) (h2 : zb.natAbs < spow 1000) (h3 : da < spow 1000) (h4 : db < spow 1000) :
    Calls Tryz.prog 21 #[xa, xb] w (FRet w (za * db + -zb * da) (da * db)) := by
  have hadd : ∀ w1, Fresh w w1 → ∀ W x, Fresh w1 W → SFr W x (-zb) db → Calls Tryz.prog 19 #[xa, x] W (FRet W (za * db + -zb * da) (da * db)) :=
    fun w1 hf W x hW hx => FracAdd_any xa x za (-zb) da db W ((ha.fresh hf).fresh hW) hx h1 (by rw [Int.natAbs_neg]; exact h2) h3 h4
  have hmin : ∀ w1, Fresh w w1 → ∀ W, Fresh w1 W → Calls Tryz.prog 50 #[xb] W (FRet W (-zb) db) := fun w1 hf W hW => FracMinus_any xb zb db W ((hb.fresh hf).fresh hW)
  obtain ⟨na, va, la, dva, dla, rfl, ha, hna, hca, hza, hda, hdna, hdd⟩ := ha
  obtain ⟨nb, vb, lb, dvb, dlb, rfl, hb, hnb, hcb, hzb, hdb, hdnb, hdd2⟩ := hb
  obtain ⟨aa, ca, rfl⟩ := ha.form
  obtain ⟨ab, cb, rfl⟩ := hb.form
  obtain ⟨ada, cda, rfl⟩ := hda.form
  obtain ⟨adb, cdb, rfl⟩ := hdb.form
  obtain ⟨g, hg⟩ : ∃ g, g = w.heap.size := ⟨_, rfl⟩
  have bx := boxes3 w #[.bool na, .slice aa la.length ca, .slice ada dla.length cda] #[.bool nb, .slice ab lb.length cb, .slice adb dlb.length cdb] #[.bool false, .slice none 0 0, .slice none 0 0] 34 34 34 g hg
  clear ha hna hca hza hda hdna hdd hb hnb hcb hzb hdb hdnb hdd2 h1 h2 h3 h4
  generalize za * db + -zb * da = z at *
  generalize da * db = d at *
  have H_bx := Lib.hid bx; clear bx
  have H_hadd := Lib.hid hadd; clear hadd
  have H_hmin := Lib.hid hmin; clear hmin
  go_enter Tryz.func21, Tryz.ntmps21
  go_wp2_with (fail)
  generalize hw1 : ((w.alloc _).alloc _).alloc _ = w1
  rw [← hg]
  obtain ⟨b1, b2, b3, hf, _⟩ := H_bx.out w1 hw1
  have k0 := row_cell b1 0
  have k1 := row_cell b1 1
  have k2 := row_cell b1 2
  have k3 := row_cell b2 0
  have k4 := row_cell b2 1
  have k5 := row_cell b2 2
  simp at k0 k1 k2 k3 k4 k5
  have hmin := H_hmin.out w1 hf
  have hadd := H_hadd.out w1 hf
  clear H_hmin H_hadd
  have H_b1 := Lib.hid b1; clear b1
  have H_b2 := Lib.hid b2; clear b2
  have H_b3 := Lib.hid b3; clear b3
  have H_hf := Lib.hid hf; clear hf
  have H_hw1 := Lib.hid hw1; clear hw1
  have H_hg := Lib.hid hg; clear hg
  have H_hmin := Lib.hid hmin; clear hmin
  have H_hadd := Lib.hid hadd; clear hadd
  go_region_held3 (fun (w' : World) => w'.cell? ⟨g, 0, none⟩ = some (.bool na) ∧ w'.cell? ⟨g, 1, none⟩ = some (.slice aa la.length ca) ∧ w'.cell? ⟨g, 2, none⟩ = some (.slice ada dla.length cda) ∧ w'.cell? ⟨g + 1, 0, none⟩ = some (.bool nb) ∧ w'.cell? ⟨g + 1, 1, none⟩ = some (.slice ab lb.length cb) ∧ w'.cell? ⟨g + 1, 2, none⟩ = some (.slice adb dlb.length cdb)) (first | exact ⟨k0, k1, k2, k3, k4, k5⟩ | exact ⟨m0, m1, m2, m3, m4, m5⟩ | exact ⟨nc0, nc1, nc2, nc3, nc4, nc5⟩ | exact ⟨far3 (by omega) nc0, far3 (by omega) nc1, far3 (by omega) nc2, far3 (by omega) nc3, far3 (by omega) nc4, far3 (by omega) nc5⟩) (first
    | (go_at_call 50; (with_reducible refine (H_hmin.out _ ?c1).mono ?_); (case c1 => first | exact Keep.refl _ _ | exact (Keep.refl _ _).drew | exact (Keep.refl _ _).drewN _); rintro e w3 ⟨x3, rfl, t1, r2⟩; have hf3 : Fresh w1 w3 := (by first | exact r2 | exact r2.of_drew | exact r2.of_drewN); have m0 := cell_fresh k0 hf3; have m1 := cell_fresh k1 hf3; have m2 := cell_fresh k2 hf3; have m3 := cell_fresh k3 hf3; have m4 := cell_fresh k4 hf3; have m5 := cell_fresh k5 hf3; have H_t1 := Lib.hid t1; have H_hf3 := Lib.hid hf3; clear t1 r2 hf3)
    | (go_at_call 19; (with_reducible refine (H_hadd.out _ _ H_hf3.out H_t1.out).mono ?_); rintro e w6 ⟨x6, rfl, ⟨n6, v6, l6, dv6, dl6, rfl, u1, u2, u3, u4, u5, u6, u7⟩, r6⟩; obtain ⟨a6, c6, rfl⟩ := u1.form; obtain ⟨a7, c7, rfl⟩ := u5.form; have nc0 := cell_fresh m0 r6; have nc1 := cell_fresh m1 r6; have nc2 := cell_fresh m2 r6; have nc3 := cell_fresh m3 r6; have nc4 := cell_fresh m4 r6; have nc5 := cell_fresh m5 r6; have b4 := row_fresh H_b3.out (fresh_trans H_hf3.out r6); have p0 := row_cell b4 0; have p1 := row_cell b4 1; have p2 := row_cell b4 2; have z0 : w6.frozen? ⟨g + 1 + 1, 0, none⟩ = false := frozen_of_row _ _ _ _ _ b4; have z1 : w6.frozen? ⟨g + 1 + 1, 1, none⟩ = false := frozen_of_row _ _ _ _ _ b4; have z2 : w6.frozen? ⟨g + 1 + 1, 2, none⟩ = false := frozen_of_row _ _ _ _ _ b4; simp at p0 p1 p2; have H_b4 := Lib.hid b4; clear b4; have H_u1 := Lib.hid u1; have H_u2 := Lib.hid u2; have H_u3 := Lib.hid u3; have H_u4 := Lib.hid u4; have H_u5 := Lib.hid u5; have H_u6 := Lib.hid u6; have H_u7 := Lib.hid u7; have H_r6 := Lib.hid r6; clear u1 u2 u3 u4 u5 u6 u7 r6))
  go_wp2
  refine bodyPost_ret (results_cell_row rfl _ _ (g + 1 + 1) 34 #[.bool n6, .slice a6 l6.length c6, .slice a7 dl6.length c7] (0, 0) _ rfl (row_set (row_set (row_set H_b4.out))) Tryz.underlying34 rfl (by kernel_rfl)) rfl ?_
  have f1 := H_u1.out.off p0 (fun n e => by simp at e)
  have f2 := H_u5.out.off p0 (fun n e => by simp at e)
  exact ⟨_, rfl, ⟨n6, _, l6, _, dl6, rfl, ((H_u1.out.setOff f1).setOff f1).setOff f1, H_u2.out, H_u3.out, H_u4.out, ((H_u5.out.setOff f2).setOff f2).setOff f2, H_u6.out, H_u7.out⟩, (fresh_trans H_hf.out (fresh_trans H_hf3.out H_r6.out)).set3 (by have := H_hg.out; omega)⟩

end Go.Proofs.YtjdfapoomjeabaaGreatDoor
