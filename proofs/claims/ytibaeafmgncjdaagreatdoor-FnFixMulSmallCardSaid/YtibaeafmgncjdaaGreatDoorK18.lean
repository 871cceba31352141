/- The contracts of the laws' words gvNear, gvExact, gvBig, gvSmall. -/
import Derived.Test.YtibaeafmgncjdaaGreatDoorK12
import Derived.Test.YtibaeafmgncjdaaGreatDoorK14
import Derived.Test.YtibaeafmgncjdaaGreatDoorK15
import Derived.Test.YtibaeafmgncjdaaGreatDoorK17
namespace Go.Proofs.YtibaeafmgncjdaaGreatDoor
open Go.RowKit

theorem cmpZ_of_eq {a b : Int} (h : a = b) : cmpZ a b = 0 := by subst h; unfold cmpZ; rw [if_neg (by omega), if_neg (by omega)]

theorem spow_more {m n : Nat} {x : Nat} (h : x < spow m) (hm : m ≤ n) : x < spow n := Nat.lt_of_lt_of_le h (spow_mono hm)

set_option maxRecDepth 20000 in
set_option maxHeartbeats 4000000 in
theorem gvNear_ok (neg : Bool) (c s : Nat) (xw : Value) (z : Int) (d : Nat) (w : World) (hx : SFr w xw z d) (hd : 0 < d) (hz : z.natAbs < spow 300) (hdd : d < spow 300) (hgd : Good z.natAbs d c s) (hcan : neg = true → 0 < c) (hsg : zfix neg c = sgnN z c) :
    Calls Tryz.prog 23 #[fx neg c s, .int .i64 0, xw] w (VRet w (.bool true)) := by
  obtain ⟨na, va, la, dv, dl, rfl, ha, hna, hca, hzz, hda, hdna, hdd0⟩ := hx
  have hx : SFr w (.agg #[.bool na, va, dv]) z d := ⟨na, va, la, dv, dl, rfl, ha, hna, hca, hzz, hda, hdna, hdd0⟩
  obtain ⟨aa, ca, rfl⟩ := ha.form
  obtain ⟨ad, cd, rfl⟩ := hda.form
  clear ha hna hca hda hdna hzz hdd0
  obtain ⟨g, hg⟩ : ∃ g, g = w.heap.size := ⟨_, rfl⟩
  obtain ⟨t, ht, _, hct⟩ := good_top hd hgd
  have hs := hgd.1
  have hc := hgd.2.1
  have hfixed := fun W (hW : Fresh w W) => Fixed_some _ z d t ht W (hx.fresh hW) hd hz hdd
  have ht19 := ht.1
  have hR : rhe (z.natAbs * 10 ^ t) d < spow 400 := rhe_spow hz ht19
  have hq : cmpZ (zfix neg c * ((10 ^ t : Nat) : Int)) (sgnN z (rhe (z.natAbs * 10 ^ t) d) * ((10 ^ s : Nat) : Int)) = 0 := cmpZ_of_eq (by rw [hsg, sgnN_mul, sgnN_mul, hct])
  have bx := boxes2 w #[.bool neg, .int .u64 c, .int .i64 s] #[.bool na, .slice aa la.length ca, .slice ad dl.length cd] 24 31 g hg
  clear hgd ht hct hd hz hdd
  have H_bx := Lib.hid bx; clear bx
  have H_hfixed := Lib.hid hfixed; clear hfixed
  have H_hx := Lib.hid hx; clear hx
  have H_hcan := Lib.hid hcan; clear hcan
  have H_hsg := Lib.hid hsg; clear hsg
  have H_hs := Lib.hid hs; clear hs
  have H_hc := Lib.hid hc; clear hc
  have H_ht19 := Lib.hid ht19; clear ht19
  have H_hR := Lib.hid hR; clear hR
  have H_hq := Lib.hid hq; clear hq
  go_enter Tryz.func23, Tryz.ntmps23
  go_wp2_with (fail)
  generalize hw1 : (w.alloc _).alloc _ = w1
  rw [← hg]
  obtain ⟨b1, b2, hf⟩ := H_bx.out w1 hw1
  have k0 := row_cell b2 0
  have k1 := row_cell b2 1
  have k2 := row_cell b2 2
  simp at k0 k1 k2
  have H_b1 := Lib.hid b1; clear b1
  have H_b2 := Lib.hid b2; clear b2
  have H_hf := Lib.hid hf; clear hf
  have H_hw1 := Lib.hid hw1; clear hw1
  have H_hg := Lib.hid hg; clear hg
  go_wp2_with (fail)
  refine (H_hfixed.out _ H_hf.out).mono ?_
  rintro e w2 ⟨x, rfl, ⟨nb, v, l, rfl, s1, s2, s3, s4⟩, f2⟩
  obtain ⟨al, cl, rfl⟩ := s1.form
  obtain ⟨h, hh⟩ : ∃ h, h = w2.heap.size := ⟨_, rfl⟩
  clear k0 k1 k2
  have H_s1 := Lib.hid s1; clear s1
  have H_s2 := Lib.hid s2; clear s2
  have H_s3 := Lib.hid s3; clear s3
  have H_s4 := Lib.hid s4; clear s4
  have H_f2 := Lib.hid f2; clear f2
  have H_hh := Lib.hid hh; clear hh
  go_wp2_with (fail)
  generalize hw3 : w2.alloc _ = w3
  have f3 : Fresh w2 w3 := by rw [← hw3]; exact (Keep.refl _ _).alloc _
  have r3 : w3.heap[h]? = some (.cells #[.bool nb, .slice al l.length cl, .int .i64 (-(t : Int))] 55 (0, 0)) := by rw [← hw3, H_hh.out]; exact heap_alloc_new w2 _
  rw [← H_hh.out]
  have f3 := fresh_trans H_f2.out f3
  have s1 := H_s1.out.fresh (by rw [← hw3]; exact (Keep.refl _ _).alloc _ : Fresh w2 w3)
  have b1 := row_fresh H_b1.out f3
  have k0 := row_cell b1 0
  have k1 := row_cell b1 1
  have k2 := row_cell b1 2
  have k3 := row_cell r3 0
  have k4 := row_cell r3 1
  have k5 := row_cell r3 2
  simp at k0 k1 k2 k3 k4 k5
  have hll : l.length ≤ 400 := H_s2.out.s_len_le (by rw [sgn_sint H_s4.out]; exact H_hR.out)
  have hfrac := fun W (hW : Fresh w3 W) => DecFrac_any nb _ l t W (s1.fresh hW) H_s2.out H_s3.out (by have := H_ht19.out; omega) (by omega)
  rw [H_s4.out] at hfrac
  have hhas := fun W x (hxx : SFr W x (sgnN z (rhe (z.natAbs * 10 ^ t) d)) (10 ^ t)) => FixHas_same neg c s x W H_hs.out H_hc.out H_hcan.out _ _ (by rw [sgnN_abs]; exact spow_more H_hR.out (by omega)) (ten_spow H_ht19.out) H_hq.out hxx
  clear H_s1 H_b1 b1 hll
  have H_f3 := Lib.hid f3; clear f3
  have H_s1 := Lib.hid s1; clear s1
  have H_r3 := Lib.hid r3; clear r3
  have H_hfrac := Lib.hid hfrac; clear hfrac
  have H_hhas := Lib.hid hhas; clear hhas
  have H_hw3 := Lib.hid hw3; clear hw3
  go_wp2_with (fail)
  go_region_held3 (fun (w' : World) => w'.cell? ⟨g, 0, none⟩ = some (.bool neg) ∧ w'.cell? ⟨g, 1, none⟩ = some (.int .u64 c) ∧ w'.cell? ⟨g, 2, none⟩ = some (.int .i64 s) ∧ w'.cell? ⟨h, 0, none⟩ = some (.bool nb) ∧ w'.cell? ⟨h, 1, none⟩ = some (.slice al l.length cl) ∧ w'.cell? ⟨h, 2, none⟩ = some (.int .i64 (-(t : Int)))) (first | exact ⟨k0, k1, k2, k3, k4, k5⟩ | exact ⟨m0, m1, m2, m3, m4, m5⟩ | exact ⟨nc0, nc1, nc2, nc3, nc4, nc5⟩) (first
    | (go_at_call 43; (with_reducible refine (H_hfrac.out _ ?c1).mono ?_); (case c1 => first | exact Keep.refl _ _ | exact (Keep.refl _ _).drew | exact (Keep.refl _ _).drewN _); rintro e w4 ⟨x4, rfl, y4, f4⟩; have hf4 : Fresh w3 w4 := (by first | exact f4 | exact f4.of_drew | exact f4.of_drewN); have m0 := cell_fresh k0 hf4; have m1 := cell_fresh k1 hf4; have m2 := cell_fresh k2 hf4; have m3 := cell_fresh k3 hf4; have m4 := cell_fresh k4 hf4; have m5 := cell_fresh k5 hf4; have H_y4 := Lib.hid y4; have H_hf4 := Lib.hid hf4; clear y4 f4 hf4)
    | (go_at_call 36; (with_reducible refine (H_hhas.out _ _ H_y4.out).mono ?_); rintro e w5 ⟨rfl, f5⟩; have nc0 := cell_fresh m0 f5; have nc1 := cell_fresh m1 f5; have nc2 := cell_fresh m2 f5; have nc3 := cell_fresh m3 f5; have nc4 := cell_fresh m4 f5; have nc5 := cell_fresh m5 f5; have H_f5 := Lib.hid f5; clear f5))
  go_wp2
  go_ret
  exact ⟨rfl, fresh_trans (fresh_trans (fresh_trans H_hf.out H_f3.out) H_hf4.out) H_f5.out⟩

set_option maxRecDepth 20000 in
set_option maxHeartbeats 4000000 in
theorem gvNear_err (neg : Bool) (c : Nat) (s : Int) (xw : Value) (z : Int) (d : Nat) (w : World) (hx : SFr w xw z d) (hd : 0 < d) (hz : z.natAbs < spow 300) (hdd : d < spow 300) (hno : ¬ okN z.natAbs d 0) :
    Calls Tryz.prog 23 #[.agg #[.bool neg, .int .u64 c, .int .i64 s], .int .i64 1, xw] w (VRet w (.bool true)) := by
  obtain ⟨na, va, la, dv, dl, rfl, ha, hna, hca, hzz, hda, hdna, hdd0⟩ := hx
  have hx : SFr w (.agg #[.bool na, va, dv]) z d := ⟨na, va, la, dv, dl, rfl, ha, hna, hca, hzz, hda, hdna, hdd0⟩
  obtain ⟨aa, ca, rfl⟩ := ha.form
  obtain ⟨ad, cd, rfl⟩ := hda.form
  clear ha hna hca hda hdna hzz hdd0
  obtain ⟨g, hg⟩ : ∃ g, g = w.heap.size := ⟨_, rfl⟩
  have hfixed := fun W (hW : Fresh w W) => Fixed_none _ z d hno W (hx.fresh hW) hd hz hdd
  have bx := boxes2 w #[.bool neg, .int .u64 c, .int .i64 s] #[.bool na, .slice aa la.length ca, .slice ad dl.length cd] 24 31 g hg
  clear hno hd hz hdd
  have H_bx := Lib.hid bx; clear bx
  have H_hfixed := Lib.hid hfixed; clear hfixed
  have H_hx := Lib.hid hx; clear hx
  go_enter Tryz.func23, Tryz.ntmps23
  go_wp2_with (fail)
  generalize hw1 : (w.alloc _).alloc _ = w1
  rw [← hg]
  obtain ⟨b1, b2, hf⟩ := H_bx.out w1 hw1
  have k0 := row_cell b2 0
  have k1 := row_cell b2 1
  have k2 := row_cell b2 2
  simp at k0 k1 k2
  have H_b1 := Lib.hid b1; clear b1
  have H_b2 := Lib.hid b2; clear b2
  have H_hf := Lib.hid hf; clear hf
  have H_hw1 := Lib.hid hw1; clear hw1
  have H_hg := Lib.hid hg; clear hg
  go_wp2_with (fail)
  refine (H_hfixed.out _ H_hf.out).mono ?_
  rintro e w2 ⟨rfl, f2⟩
  clear k0 k1 k2
  have H_f2 := Lib.hid f2; clear f2
  go_wp2_with (fail)
  go_ret
  exact ⟨rfl, fresh_trans H_hf.out ((H_f2.out).alloc _)⟩

set_option maxRecDepth 20000 in
set_option maxHeartbeats 4000000 in
theorem gvExact_ok (neg : Bool) (c s ms : Nat) (xw : Value) (z : Int) (d : Nat) (w : World) (hx : SFr w xw z d) (hd : 0 < d) (hz : z.natAbs < spow 300) (hdd : d < spow 300) (hgd : Good z.natAbs d c s) (hms : ms ≤ s) (hcan : neg = true → 0 < c) (hsg : zfix neg c = sgnN z c) :
    Calls Tryz.prog 65 #[fx neg c s, .int .i64 0, xw, .int .i64 ms] w (VRet w (.bool true)) := by
  obtain ⟨na, va, la, dv, dl, rfl, ha, hna, hca, hzz, hda, hdna, hdd0⟩ := hx
  have hx : SFr w (.agg #[.bool na, va, dv]) z d := ⟨na, va, la, dv, dl, rfl, ha, hna, hca, hzz, hda, hdna, hdd0⟩
  obtain ⟨aa, ca, rfl⟩ := ha.form
  obtain ⟨ad, cd, rfl⟩ := hda.form
  clear ha hna hca hda hdna hzz hdd0
  obtain ⟨g, hg⟩ : ∃ g, g = w.heap.size := ⟨_, rfl⟩
  obtain ⟨r, hr⟩ := room_ex z.natAbs d
  have hsr : (s : Int) ≤ r := by
    obtain ⟨t, ht, hst, _⟩ := good_top hd hgd
    rcases hr with ⟨t', rfl, h⟩ | ⟨_, h⟩
    · have := top_unique hd ht h
      omega
    · exact absurd (okN_anti hd (Nat.zero_le t) ht.2.1) h
  have hs19 := hgd.1
  have hroom := fun W (hW : Fresh w W) => Room_any _ z d r W (hx.fresh hW) hd hz hdd hr
  have hnear := fun W (hW : Fresh w W) => gvNear_ok neg c s _ z d W (hx.fresh hW) hd hz hdd hgd hcan hsg
  have t1 : decide ((ms : Int) < 0) = false := by simp
  have t2 : decide (19 < (ms : Int)) = false := by simp; omega
  have t3 : decide (r < (ms : Int)) = false := by simp; omega
  have t3n : ¬ r < (ms : Int) := by omega
  have t4 : decide ((ms : Int) ≤ (s : Int)) = true := by simp; omega
  have bx := boxes2 w #[.bool neg, .int .u64 c, .int .i64 s] #[.bool na, .slice aa la.length ca, .slice ad dl.length cd] 24 31 g hg
  clear hgd hr hsr hd hz hdd
  have H_bx := Lib.hid bx; clear bx
  have H_hroom := Lib.hid hroom; clear hroom
  have H_hnear := Lib.hid hnear; clear hnear
  have H_hx := Lib.hid hx; clear hx
  have H_hcan := Lib.hid hcan; clear hcan
  have H_hsg := Lib.hid hsg; clear hsg
  go_enter Tryz.func65, Tryz.ntmps65
  go_wp2_with (fail)
  generalize hw1 : (w.alloc _).alloc _ = w1
  rw [← hg]
  obtain ⟨b1, b2, hf⟩ := H_bx.out w1 hw1
  have k0 := row_cell b2 0
  have k1 := row_cell b2 1
  have k2 := row_cell b2 2
  simp at k0 k1 k2
  have H_b1 := Lib.hid b1; clear b1
  have H_b2 := Lib.hid b2; clear b2
  have H_hf := Lib.hid hf; clear hf
  have H_hw1 := Lib.hid hw1; clear hw1
  have H_hg := Lib.hid hg; clear hg
  go_wp2_with (fail)
  refine (H_hroom.out _ H_hf.out).mono ?_
  rintro e w2 ⟨rfl, f2⟩
  have b1 := row_fresh H_b1.out f2
  have b2 := row_fresh H_b2.out f2
  have f2 := fresh_trans H_hf.out f2
  clear k0 k1 k2 H_b1 H_b2
  have k0 := row_cell b2 0
  have k1 := row_cell b2 1
  have k2 := row_cell b2 2
  have k3 := row_cell b1 0
  have k4 := row_cell b1 1
  have k5 := row_cell b1 2
  simp at k0 k1 k2 k3 k4 k5
  have H_b1 := Lib.hid b1; clear b1
  have H_b2 := Lib.hid b2; clear b2
  have H_f2 := Lib.hid f2; clear f2
  go_wp2_with (fail)
  refine (H_hnear.out _ H_f2.out).mono ?_
  rintro e w3 ⟨rfl, f3⟩
  have H_f3 := Lib.hid f3; clear f3
  go_wp2_with (fail)
  go_ret
  exact ⟨rfl, fresh_trans H_f2.out H_f3.out⟩

set_option maxRecDepth 20000 in
set_option maxHeartbeats 4000000 in
theorem gvExact_err (neg : Bool) (c ms : Nat) (s : Int) (xw : Value) (z : Int) (d : Nat) (w : World) (hx : SFr w xw z d) (hd : 0 < d) (hz : z.natAbs < spow 300) (hdd : d < spow 300) (hms : ms ≤ 19) (hno : ¬ okN z.natAbs d ms) :
    Calls Tryz.prog 65 #[.agg #[.bool neg, .int .u64 c, .int .i64 s], .int .i64 1, xw, .int .i64 ms] w (VRet w (.bool true)) := by
  obtain ⟨na, va, la, dv, dl, rfl, ha, hna, hca, hzz, hda, hdna, hdd0⟩ := hx
  have hx : SFr w (.agg #[.bool na, va, dv]) z d := ⟨na, va, la, dv, dl, rfl, ha, hna, hca, hzz, hda, hdna, hdd0⟩
  obtain ⟨aa, ca, rfl⟩ := ha.form
  obtain ⟨ad, cd, rfl⟩ := hda.form
  clear ha hna hca hda hdna hzz hdd0
  obtain ⟨g, hg⟩ : ∃ g, g = w.heap.size := ⟨_, rfl⟩
  obtain ⟨r, hr⟩ := room_ex z.natAbs d
  have hsr : r < (ms : Int) := by
    rcases hr with ⟨t', rfl, h⟩ | ⟨h, _⟩
    · rcases Nat.lt_or_ge t' ms with h1 | h1
      · omega
      · exact absurd (okN_anti hd h1 h.2.1) hno
    · omega
  have hroom := fun W (hW : Fresh w W) => Room_any _ z d r W (hx.fresh hW) hd hz hdd hr
  have t1 : decide ((ms : Int) < 0) = false := by simp
  have t2 : decide (19 < (ms : Int)) = false := by simp; omega
  have t3 : decide (r < (ms : Int)) = true := by simp; omega
  have bx := boxes2 w #[.bool neg, .int .u64 c, .int .i64 s] #[.bool na, .slice aa la.length ca, .slice ad dl.length cd] 24 31 g hg
  clear hr hd hz hdd hno
  have H_bx := Lib.hid bx; clear bx
  have H_hroom := Lib.hid hroom; clear hroom
  have H_hx := Lib.hid hx; clear hx
  go_enter Tryz.func65, Tryz.ntmps65
  go_wp2_with (fail)
  generalize hw1 : (w.alloc _).alloc _ = w1
  rw [← hg]
  obtain ⟨b1, b2, hf⟩ := H_bx.out w1 hw1
  have k0 := row_cell b2 0
  have k1 := row_cell b2 1
  have k2 := row_cell b2 2
  simp at k0 k1 k2
  have H_b1 := Lib.hid b1; clear b1
  have H_b2 := Lib.hid b2; clear b2
  have H_hf := Lib.hid hf; clear hf
  have H_hw1 := Lib.hid hw1; clear hw1
  have H_hg := Lib.hid hg; clear hg
  go_wp2_with (fail)
  refine (H_hroom.out _ H_hf.out).mono ?_
  rintro e w2 ⟨rfl, f2⟩
  clear k0 k1 k2
  have H_f2 := Lib.hid f2; clear f2
  go_wp2_with (fail)
  go_ret
  exact ⟨rfl, fresh_trans H_hf.out H_f2.out⟩

set_option maxRecDepth 20000 in
set_option maxHeartbeats 4000000 in
theorem gvSmall_ok (neg : Bool) (c s ms : Nat) (xw : Value) (z : Int) (d : Nat) (w : World) (hx : SFr w xw z d) (hd : 0 < d) (hz : z.natAbs < spow 300) (hdd : d < spow 300) (hgd : Good z.natAbs d c s) (hms : ms ≤ s) (hcan : neg = true → 0 < c) (hsg : zfix neg c = sgnN z c) :
    Calls Tryz.prog 30 #[fx neg c s, .int .i64 0, xw, .int .i64 ms] w (VRet w (.bool true)) := by
  have hs19 := hgd.1
  obtain ⟨na, va, la, dv, dl, rfl, ha, hna, hca, hzz, hda, hdna, hdd0⟩ := hx
  have hx : SFr w (.agg #[.bool na, va, dv]) z d := ⟨na, va, la, dv, dl, rfl, ha, hna, hca, hzz, hda, hdna, hdd0⟩
  obtain ⟨aa, ca, rfl⟩ := ha.form
  obtain ⟨ad, cd, rfl⟩ := hda.form
  clear ha hna hca hda hdna hzz hdd0
  obtain ⟨g, hg⟩ : ∃ g, g = w.heap.size := ⟨_, rfl⟩
  have t1 : decide ((ms : Int) < 0) = false := by simp
  have t2 : decide (19 < (ms : Int)) = false := by simp; omega
  have hex := fun W (hW : Fresh w W) => gvExact_ok neg c s ms _ z d W (hx.fresh hW) hd hz hdd hgd hms hcan hsg
  have bx := boxes2 w #[.bool neg, .int .u64 c, .int .i64 s] #[.bool na, .slice aa la.length ca, .slice ad dl.length cd] 24 31 g hg
  clear hgd hd hz hdd hms hcan hsg hs19
  have H_bx := Lib.hid bx; clear bx
  have H_hex := Lib.hid hex; clear hex
  have H_hx := Lib.hid hx; clear hx
  go_enter Tryz.func30, Tryz.ntmps30
  go_wp2_with (fail)
  generalize hw1 : (w.alloc _).alloc _ = w1
  rw [← hg]
  obtain ⟨b1, b2, hf⟩ := H_bx.out w1 hw1
  have k0 := row_cell b2 0
  have k1 := row_cell b2 1
  have k2 := row_cell b2 2
  have k3 := row_cell b1 0
  have k4 := row_cell b1 1
  have k5 := row_cell b1 2
  simp at k0 k1 k2 k3 k4 k5
  have H_b1 := Lib.hid b1; clear b1
  have H_b2 := Lib.hid b2; clear b2
  have H_hf := Lib.hid hf; clear hf
  have H_hw1 := Lib.hid hw1; clear hw1
  have H_hg := Lib.hid hg; clear hg
  go_wp2_with (fail)
  refine (H_hex.out _ H_hf.out).mono ?_
  rintro e w2 ⟨rfl, f2⟩
  have H_f2 := Lib.hid f2; clear f2
  go_wp2_with (fail)
  go_ret
  exact ⟨rfl, fresh_trans H_hf.out H_f2.out⟩

set_option maxRecDepth 20000 in
set_option maxHeartbeats 4000000 in
theorem gvSmall_out (neg : Bool) (c : Nat) (s f ms : Int) (xw : Value) (z : Int) (d : Nat) (w : World) (hx : SFr w xw z d) (hms : ms < 0 ∨ 19 < ms) :
    Calls Tryz.prog 30 #[.agg #[.bool neg, .int .u64 c, .int .i64 s], .int .i64 f, xw, .int .i64 ms] w (VRet w (.bool true)) := by
  obtain ⟨na, va, la, dv, dl, rfl, ha, hna, hca, hzz, hda, hdna, hdd0⟩ := hx
  have hx : SFr w (.agg #[.bool na, va, dv]) z d := ⟨na, va, la, dv, dl, rfl, ha, hna, hca, hzz, hda, hdna, hdd0⟩
  obtain ⟨aa, ca, rfl⟩ := ha.form
  obtain ⟨ad, cd, rfl⟩ := hda.form
  clear ha hna hca hda hdna hzz hdd0
  obtain ⟨g, hg⟩ : ∃ g, g = w.heap.size := ⟨_, rfl⟩
  have bx := boxes2 w #[.bool neg, .int .u64 c, .int .i64 s] #[.bool na, .slice aa la.length ca, .slice ad dl.length cd] 24 31 g hg
  have H_bx := Lib.hid bx; clear bx
  have H_hx := Lib.hid hx; clear hx
  rcases hms with hms | hms
  · have t1 : decide (ms < 0) = true := by simp; omega
    go_enter Tryz.func30, Tryz.ntmps30
    go_wp2_with (fail)
    generalize hw1 : (w.alloc _).alloc _ = w1
    rw [← hg]
    obtain ⟨b1, b2, hf⟩ := H_bx.out w1 hw1
    have H_b1 := Lib.hid b1; clear b1
    have H_b2 := Lib.hid b2; clear b2
    have H_hf := Lib.hid hf; clear hf
    have H_hw1 := Lib.hid hw1; clear hw1
    have H_hg := Lib.hid hg; clear hg
    go_wp2_with (fail)
    go_ret
    exact ⟨rfl, H_hf.out⟩
  · have t0 : ¬ ms < 0 := by omega
    have t1 : decide (ms < 0) = false := by simp; omega
    have t2 : decide (19 < ms) = true := by simp; omega
    go_enter Tryz.func30, Tryz.ntmps30
    go_wp2_with (fail)
    generalize hw1 : (w.alloc _).alloc _ = w1
    rw [← hg]
    obtain ⟨b1, b2, hf⟩ := H_bx.out w1 hw1
    have H_b1 := Lib.hid b1; clear b1
    have H_b2 := Lib.hid b2; clear b2
    have H_hf := Lib.hid hf; clear hf
    have H_hw1 := Lib.hid hw1; clear hw1
    have H_hg := Lib.hid hg; clear hg
    go_wp2_with (fail)
    go_ret
    exact ⟨rfl, H_hf.out⟩

set_option maxRecDepth 20000 in
set_option maxHeartbeats 4000000 in
theorem gvSmall_not (neg : Bool) (c : Nat) (s : Int) (ms : Nat) (xw : Value) (z : Int) (d : Nat) (w : World) (hx : SFr w xw z d) (hms : ms ≤ 19) :
    Calls Tryz.prog 30 #[.agg #[.bool neg, .int .u64 c, .int .i64 s], .int .i64 1, xw, .int .i64 ms] w (VRet w (.bool true)) := by
  obtain ⟨na, va, la, dv, dl, rfl, ha, hna, hca, hzz, hda, hdna, hdd0⟩ := hx
  have hx : SFr w (.agg #[.bool na, va, dv]) z d := ⟨na, va, la, dv, dl, rfl, ha, hna, hca, hzz, hda, hdna, hdd0⟩
  obtain ⟨aa, ca, rfl⟩ := ha.form
  obtain ⟨ad, cd, rfl⟩ := hda.form
  clear ha hna hca hda hdna hzz hdd0
  obtain ⟨g, hg⟩ : ∃ g, g = w.heap.size := ⟨_, rfl⟩
  have t1 : decide ((ms : Int) < 0) = false := by simp
  have t2 : decide (19 < (ms : Int)) = false := by simp; omega
  have bx := boxes2 w #[.bool neg, .int .u64 c, .int .i64 s] #[.bool na, .slice aa la.length ca, .slice ad dl.length cd] 24 31 g hg
  have H_bx := Lib.hid bx; clear bx
  have H_hx := Lib.hid hx; clear hx
  go_enter Tryz.func30, Tryz.ntmps30
  go_wp2_with (fail)
  generalize hw1 : (w.alloc _).alloc _ = w1
  rw [← hg]
  obtain ⟨b1, b2, hf⟩ := H_bx.out w1 hw1
  have H_b1 := Lib.hid b1; clear b1
  have H_b2 := Lib.hid b2; clear b2
  have H_hf := Lib.hid hf; clear hf
  have H_hw1 := Lib.hid hw1; clear hw1
  have H_hg := Lib.hid hg; clear hg
  go_wp2_with (fail)
  go_ret
  exact ⟨rfl, H_hf.out⟩

set_option maxRecDepth 20000 in
set_option maxHeartbeats 4000000 in
theorem gvBig_ok (neg : Bool) (c s ms : Nat) (xw : Value) (z : Int) (d : Nat) (w : World) (hx : SFr w xw z d) (hd : 0 < d) (hz : z.natAbs < spow 300) (hdd : d < spow 300) (hgd : Good z.natAbs d c s) (hms : ms ≤ s) (hcan : neg = true → 0 < c) (hsg : zfix neg c = sgnN z c) :
    Calls Tryz.prog 28 #[fx neg c s, .int .i64 0, xw, .int .i64 ms] w (VRet w (.bool true)) := by
  have hs19 := hgd.1
  obtain ⟨na, va, la, dv, dl, rfl, ha, hna, hca, hzz, hda, hdna, hdd0⟩ := hx
  have hx : SFr w (.agg #[.bool na, va, dv]) z d := ⟨na, va, la, dv, dl, rfl, ha, hna, hca, hzz, hda, hdna, hdd0⟩
  obtain ⟨aa, ca, rfl⟩ := ha.form
  obtain ⟨ad, cd, rfl⟩ := hda.form
  clear ha hna hca hda hdna hzz hdd0
  obtain ⟨g, hg⟩ : ∃ g, g = w.heap.size := ⟨_, rfl⟩
  have t1 : decide ((ms : Int) < 0) = false := by simp
  have t2 : decide (19 < (ms : Int)) = false := by simp; omega
  have hex := fun W (hW : Fresh w W) => gvExact_ok neg c s ms _ z d W (hx.fresh hW) hd hz hdd hgd hms hcan hsg
  have bx := boxes2 w #[.bool neg, .int .u64 c, .int .i64 s] #[.bool na, .slice aa la.length ca, .slice ad dl.length cd] 24 31 g hg
  clear hgd hd hz hdd hms hcan hsg hs19
  have H_bx := Lib.hid bx; clear bx
  have H_hex := Lib.hid hex; clear hex
  have H_hx := Lib.hid hx; clear hx
  go_enter Tryz.func28, Tryz.ntmps28
  go_wp2_with (fail)
  generalize hw1 : (w.alloc _).alloc _ = w1
  rw [← hg]
  obtain ⟨b1, b2, hf⟩ := H_bx.out w1 hw1
  have k0 := row_cell b2 0
  have k1 := row_cell b2 1
  have k2 := row_cell b2 2
  have k3 := row_cell b1 0
  have k4 := row_cell b1 1
  have k5 := row_cell b1 2
  simp at k0 k1 k2 k3 k4 k5
  have H_b1 := Lib.hid b1; clear b1
  have H_b2 := Lib.hid b2; clear b2
  have H_hf := Lib.hid hf; clear hf
  have H_hw1 := Lib.hid hw1; clear hw1
  have H_hg := Lib.hid hg; clear hg
  go_wp2_with (fail)
  refine (H_hex.out _ H_hf.out).mono ?_
  rintro e w2 ⟨rfl, f2⟩
  have H_f2 := Lib.hid f2; clear f2
  go_wp2_with (fail)
  go_ret
  exact ⟨rfl, fresh_trans H_hf.out H_f2.out⟩

set_option maxRecDepth 20000 in
set_option maxHeartbeats 4000000 in
theorem gvBig_err (neg : Bool) (c ms : Nat) (s : Int) (xw : Value) (z : Int) (d : Nat) (w : World) (hx : SFr w xw z d) (hd : 0 < d) (hz : z.natAbs < spow 300) (hdd : d < spow 300) (hms : ms ≤ 19) (hno : ¬ okN z.natAbs d ms) :
    Calls Tryz.prog 28 #[.agg #[.bool neg, .int .u64 c, .int .i64 s], .int .i64 1, xw, .int .i64 ms] w (VRet w (.bool true)) := by
  obtain ⟨na, va, la, dv, dl, rfl, ha, hna, hca, hzz, hda, hdna, hdd0⟩ := hx
  have hx : SFr w (.agg #[.bool na, va, dv]) z d := ⟨na, va, la, dv, dl, rfl, ha, hna, hca, hzz, hda, hdna, hdd0⟩
  obtain ⟨aa, ca, rfl⟩ := ha.form
  obtain ⟨ad, cd, rfl⟩ := hda.form
  clear ha hna hca hda hdna hzz hdd0
  obtain ⟨g, hg⟩ : ∃ g, g = w.heap.size := ⟨_, rfl⟩
  have t1 : decide ((ms : Int) < 0) = false := by simp
  have t2 : decide (19 < (ms : Int)) = false := by simp; omega
  have hex := fun W (hW : Fresh w W) => gvExact_err neg c ms s _ z d W (hx.fresh hW) hd hz hdd hms hno
  have bx := boxes2 w #[.bool neg, .int .u64 c, .int .i64 s] #[.bool na, .slice aa la.length ca, .slice ad dl.length cd] 24 31 g hg
  clear hd hz hdd hms hno
  have H_bx := Lib.hid bx; clear bx
  have H_hex := Lib.hid hex; clear hex
  have H_hx := Lib.hid hx; clear hx
  go_enter Tryz.func28, Tryz.ntmps28
  go_wp2_with (fail)
  generalize hw1 : (w.alloc _).alloc _ = w1
  rw [← hg]
  obtain ⟨b1, b2, hf⟩ := H_bx.out w1 hw1
  have k0 := row_cell b2 0
  have k1 := row_cell b2 1
  have k2 := row_cell b2 2
  have k3 := row_cell b1 0
  have k4 := row_cell b1 1
  have k5 := row_cell b1 2
  simp at k0 k1 k2 k3 k4 k5
  have H_b1 := Lib.hid b1; clear b1
  have H_b2 := Lib.hid b2; clear b2
  have H_hf := Lib.hid hf; clear hf
  have H_hw1 := Lib.hid hw1; clear hw1
  have H_hg := Lib.hid hg; clear hg
  go_wp2_with (fail)
  refine (H_hex.out _ H_hf.out).mono ?_
  rintro e w2 ⟨rfl, f2⟩
  have H_f2 := Lib.hid f2; clear f2
  go_wp2_with (fail)
  go_ret
  exact ⟨rfl, fresh_trans H_hf.out H_f2.out⟩

set_option maxRecDepth 20000 in
set_option maxHeartbeats 4000000 in
theorem gvBig_out (neg : Bool) (c : Nat) (s f ms : Int) (xw : Value) (z : Int) (d : Nat) (w : World) (hx : SFr w xw z d) (hms : ms < 0 ∨ 19 < ms) :
    Calls Tryz.prog 28 #[.agg #[.bool neg, .int .u64 c, .int .i64 s], .int .i64 f, xw, .int .i64 ms] w (VRet w (.bool true)) := by
  obtain ⟨na, va, la, dv, dl, rfl, ha, hna, hca, hzz, hda, hdna, hdd0⟩ := hx
  have hx : SFr w (.agg #[.bool na, va, dv]) z d := ⟨na, va, la, dv, dl, rfl, ha, hna, hca, hzz, hda, hdna, hdd0⟩
  obtain ⟨aa, ca, rfl⟩ := ha.form
  obtain ⟨ad, cd, rfl⟩ := hda.form
  clear ha hna hca hda hdna hzz hdd0
  obtain ⟨g, hg⟩ : ∃ g, g = w.heap.size := ⟨_, rfl⟩
  have bx := boxes2 w #[.bool neg, .int .u64 c, .int .i64 s] #[.bool na, .slice aa la.length ca, .slice ad dl.length cd] 24 31 g hg
  have H_bx := Lib.hid bx; clear bx
  have H_hx := Lib.hid hx; clear hx
  rcases hms with hms | hms
  · have t1 : decide (ms < 0) = true := by simp; omega
    go_enter Tryz.func28, Tryz.ntmps28
    go_wp2_with (fail)
    generalize hw1 : (w.alloc _).alloc _ = w1
    rw [← hg]
    obtain ⟨b1, b2, hf⟩ := H_bx.out w1 hw1
    have H_b1 := Lib.hid b1; clear b1
    have H_b2 := Lib.hid b2; clear b2
    have H_hf := Lib.hid hf; clear hf
    have H_hw1 := Lib.hid hw1; clear hw1
    have H_hg := Lib.hid hg; clear hg
    go_wp2_with (fail)
    go_ret
    exact ⟨rfl, H_hf.out⟩
  · have t0 : ¬ ms < 0 := by omega
    have t1 : decide (ms < 0) = false := by simp; omega
    have t2 : decide (19 < ms) = true := by simp; omega
    go_enter Tryz.func28, Tryz.ntmps28
    go_wp2_with (fail)
    generalize hw1 : (w.alloc _).alloc _ = w1
    rw [← hg]
    obtain ⟨b1, b2, hf⟩ := H_bx.out w1 hw1
    have H_b1 := Lib.hid b1; clear b1
    have H_b2 := Lib.hid b2; clear b2
    have H_hf := Lib.hid hf; clear hf
    have H_hw1 := Lib.hid hw1; clear hw1
    have H_hg := Lib.hid hg; clear hg
    go_wp2_with (fail)
    go_ret
    exact ⟨rfl, H_hf.out⟩

end Go.Proofs.YtibaeafmgncjdaaGreatDoor

/- The walks of FnFixAddSmall, FnFixMulSmall. -/
namespace Go.Proofs.YtibaeafmgncjdaaGreatDoor
open Go.RowKit

set_option maxRecDepth 20000 in
set_option maxHeartbeats 2000000 in
theorem FnFixAddSmall_out (n1 n2 : Bool) (c1 c2 : Nat) (s1 s2 : Int) (sc : Int) (w : World) (h : (fixIs c1 s1 && fixIs c2 s2) = false) :
    Calls Tryz.prog 7 #[.agg #[.bool n1, .int .u64 c1, .int .i64 s1], .agg #[.bool n2, .int .u64 c2, .int .i64 s2], .int .i64 sc] w (VRet w (.bool true)) := by
  obtain ⟨g, hg⟩ : ∃ g, g = w.heap.size := ⟨_, rfl⟩
  have bx := boxes3 w #[.bool n1, .int .u64 c1, .int .i64 s1] #[.bool n2, .int .u64 c2, .int .i64 s2] #[.bool n1, .int .u64 c1, .int .i64 s1, .bool n2, .int .u64 c2, .int .i64 s2] 24 24 24 g hg
  have H_bx := Lib.hid bx; clear bx
  have H_h := Lib.hid h; clear h
  go_enter Tryz.func7, Tryz.ntmps7
  go_wp2_with (fail)
  generalize hw1 : ((w.alloc _).alloc _).alloc _ = w1
  rw [← hg]
  obtain ⟨d1, d2, d3, fa, _⟩ := H_bx.out w1 hw1
  refine (FixAll_two n1 n2 c1 c2 s1 s2 _ _ d3).mono ?_
  rintro e w2 ⟨rfl, f2⟩
  rw [H_h.out]
  have H_d1 := Lib.hid d1; clear d1
  have H_d2 := Lib.hid d2; clear d2
  have H_d3 := Lib.hid d3; clear d3
  have H_fa := Lib.hid fa; clear fa
  have H_hw1 := Lib.hid hw1; clear hw1
  have H_hg := Lib.hid hg; clear hg
  have H_f2 := Lib.hid f2; clear f2
  go_wp2_with (fail)
  go_ret
  exact ⟨rfl, fresh_trans H_fa.out H_f2.out⟩

set_option maxRecDepth 100000 in
set_option maxHeartbeats 8000000 in
theorem FnFixAddSmall_walk (n1 n2 nr : Bool) (c1 s1 c2 s2 cr : Nat) (sr fl : Int) (sc : Int) (w : World) (hs1 : s1 ≤ 19) (hs2 : s2 ≤ 19) (hc1 : c1 ≤ 9999999999999999999) (hc2 : c2 ≤ 9999999999999999999)
    (hcl : ∀ W, Fresh w W → Calls Tryz.prog 29 #[fx n1 c1 s1, fx n2 c2 s2, .int .i64 sc] W (VRet W (.tuple #[.agg #[.bool nr, .int .u64 cr, .int .i64 sr], .int .i64 fl])))
    (ns : Bool) (cs ss : Int) (hsm : ∀ W, Fresh w W → Calls Tryz.prog 29 #[.agg #[.bool false, .int .u64 12, .int .i64 0], .agg #[.bool false, .int .u64 12, .int .i64 0], .int .i64 0] W (VRet W (.tuple #[.agg #[.bool ns, .int .u64 cs, .int .i64 ss], .int .i64 0])))
    (hgv : ∀ W x, Fresh w W → SFr W x (zfix n1 c1 * ((10 ^ s2 : Nat) : Int) + zfix n2 c2 * ((10 ^ s1 : Nat) : Int)) (10 ^ s1 * 10 ^ s2) → Calls Tryz.prog 30 #[.agg #[.bool nr, .int .u64 cr, .int .i64 sr], .int .i64 fl, x, .int .i64 sc] W (VRet W (.bool true))) :
    Calls Tryz.prog 7 #[fx n1 c1 s1, fx n2 c2 s2, .int .i64 sc] w (VRet w (.bool true)) := by
  have h : (fixIs c1 s1 && fixIs c2 s2) = true := by unfold fixIs; simp; omega
  have hn1 := fun W => FixNum_any n1 c1 s1 W hs1 hc1
  have hn2 := fun W => FixNum_any n2 c2 s2 W hs2 hc2
  have hop := fun W x y (hx : SFr W x (zfix n1 c1) (10 ^ s1)) (hy : SFr W y (zfix n2 c2) (10 ^ s2)) => FracAdd_any x y _ _ _ _ W hx hy (zfix_spow hc1) (zfix_spow hc2) (ten_spow hs1) (ten_spow hs2)
  obtain ⟨g, hg⟩ : ∃ g, g = w.heap.size := ⟨_, rfl⟩
  have bx := boxes3 w #[.bool n1, .int .u64 c1, .int .i64 s1] #[.bool n2, .int .u64 c2, .int .i64 s2] #[.bool n1, .int .u64 c1, .int .i64 s1, .bool n2, .int .u64 c2, .int .i64 s2] 24 24 24 g hg
  have H_bx := Lib.hid bx; clear bx
  have H_h := Lib.hid h; clear h
  have H_hcl := Lib.hid hcl; clear hcl
  have H_hn1 := Lib.hid hn1; clear hn1
  have H_hn2 := Lib.hid hn2; clear hn2
  have H_hop := Lib.hid hop; clear hop
  have H_hgv := Lib.hid hgv; clear hgv
  have H_hsm := Lib.hid hsm; clear hsm
  go_enter Tryz.func7, Tryz.ntmps7
  go_wp2_with (fail)
  generalize hw1 : ((w.alloc _).alloc _).alloc _ = w1
  rw [← hg]
  obtain ⟨d1, d2, d3, fa, _⟩ := H_bx.out w1 hw1
  refine (FixAll_two n1 n2 c1 c2 s1 s2 _ _ d3).mono ?_
  rintro e w2 ⟨rfl, f2⟩
  rw [H_h.out]
  clear d3
  have H_d1 := Lib.hid d1; clear d1
  have H_d2 := Lib.hid d2; clear d2
  have H_fa := Lib.hid fa; clear fa
  have H_hw1 := Lib.hid hw1; clear hw1
  have H_hg := Lib.hid hg; clear hg
  have d1 := row_fresh H_d1.out f2
  have d2 := row_fresh H_d2.out f2
  have fa := fresh_trans H_fa.out f2
  have m0 := row_cell d1 0
  have m1 := row_cell d1 1
  have m2 := row_cell d1 2
  have m3 := row_cell d2 0
  have m4 := row_cell d2 1
  have m5 := row_cell d2 2
  simp at m0 m1 m2 m3 m4 m5
  have H_f2 := Lib.hid f2; clear f2
  clear H_d1 H_d2 H_fa
  have H_d1 := Lib.hid d1; clear d1
  have H_d2 := Lib.hid d2; clear d2
  have H_fa := Lib.hid fa; clear fa
  go_wp2_with (fail)
  refine (H_hcl.out _ H_fa.out).mono ?_
  rintro e w3 ⟨rfl, f3⟩
  have d1 := row_fresh H_d1.out f3
  have d2 := row_fresh H_d2.out f3
  have fa := fresh_trans H_fa.out f3
  clear m0 m1 m2 m3 m4 m5
  obtain ⟨h7, hh7⟩ : ∃ h, h = w3.heap.size := ⟨_, rfl⟩
  have by7 := boxes2 w3 #[.bool nr, .int .u64 cr, .int .i64 sr] #[.bool false, .int .u64 12, .int .i64 0] 24 24 h7 hh7
  have H_f3 := Lib.hid f3; clear f3
  have H_hh7 := Lib.hid hh7; clear hh7
  have H_by7 := Lib.hid by7; clear by7
  clear H_d1 H_d2 H_fa
  have H_d1 := Lib.hid d1; clear d1
  have H_d2 := Lib.hid d2; clear d2
  have H_fa := Lib.hid fa; clear fa
  go_wp2_with (fail)
  generalize hw4 : (w3.alloc _).alloc _ = w4
  rw [← H_hh7.out]
  obtain ⟨r7, r9, f4⟩ := H_by7.out w4 hw4
  have d1 := row_fresh H_d1.out f4
  have d2 := row_fresh H_d2.out f4
  have fa := fresh_trans H_fa.out f4
  have H_f4 := Lib.hid f4; clear f4
  have H_hw4 := Lib.hid hw4; clear hw4
  clear H_d1 H_d2 H_fa
  have H_d1 := Lib.hid d1; clear d1
  have H_d2 := Lib.hid d2; clear d2
  have H_r7 := Lib.hid r7; clear r7
  have H_r9 := Lib.hid r9; clear r9
  have H_fa := Lib.hid fa; clear fa
  refine (H_hsm.out _ H_fa.out).mono ?_
  rintro e w5 ⟨rfl, f5⟩
  have d1 := row_fresh H_d1.out f5
  have d2 := row_fresh H_d2.out f5
  have r7 := row_fresh H_r7.out f5
  have r9 := row_fresh H_r9.out f5
  have fa := fresh_trans H_fa.out f5
  obtain ⟨h8, hh8⟩ : ∃ h, h = w5.heap.size := ⟨_, rfl⟩
  have H_f5 := Lib.hid f5; clear f5
  have H_hh8 := Lib.hid hh8; clear hh8
  clear H_d1 H_d2 H_r7 H_r9 H_fa
  have H_d1 := Lib.hid d1; clear d1
  have H_d2 := Lib.hid d2; clear d2
  have H_r7 := Lib.hid r7; clear r7
  have H_r9 := Lib.hid r9; clear r9
  have H_fa := Lib.hid fa; clear fa
  go_wp2_with (fail)
  generalize hw6 : w5.alloc _ = w6
  have f6 : Fresh w5 w6 := by rw [← hw6]; exact (Keep.refl _ _).alloc _
  have d1 := row_fresh H_d1.out f6
  have d2 := row_fresh H_d2.out f6
  have r7 := row_fresh H_r7.out f6
  have r9 := row_fresh H_r9.out f6
  have fa := fresh_trans H_fa.out f6
  have m0 := row_cell r7 0
  have m1 := row_cell r7 1
  have m2 := row_cell r7 2
  have m3 := row_cell d1 0
  have m4 := row_cell d1 1
  have m5 := row_cell d1 2
  have m6 := row_cell d2 0
  have m7 := row_cell d2 1
  have m8 := row_cell d2 2
  simp at m0 m1 m2 m3 m4 m5 m6 m7 m8
  have H_f6 := Lib.hid f6; clear f6
  have H_hw6 := Lib.hid hw6; clear hw6
  clear H_d1 H_d2 H_r7 H_r9 H_fa
  have H_d1 := Lib.hid d1; clear d1
  have H_d2 := Lib.hid d2; clear d2
  have H_r7 := Lib.hid r7; clear r7
  have H_r9 := Lib.hid r9; clear r9
  have H_fa := Lib.hid fa; clear fa
  go_region_held3 (fun (w' : World) => w'.cell? ⟨h7, 0, none⟩ = some (.bool nr) ∧ w'.cell? ⟨h7, 1, none⟩ = some (.int .u64 cr) ∧ w'.cell? ⟨h7, 2, none⟩ = some (.int .i64 sr) ∧ w'.cell? ⟨g, 0, none⟩ = some (.bool n1) ∧ w'.cell? ⟨g, 1, none⟩ = some (.int .u64 c1) ∧ w'.cell? ⟨g, 2, none⟩ = some (.int .i64 s1) ∧ w'.cell? ⟨g + 1, 0, none⟩ = some (.bool n2) ∧ w'.cell? ⟨g + 1, 1, none⟩ = some (.int .u64 c2) ∧ w'.cell? ⟨g + 1, 2, none⟩ = some (.int .i64 s2)) (first | exact ⟨m0, m1, m2, m3, m4, m5, m6, m7, m8⟩ | exact ⟨z2_0, z2_1, z2_2, z2_3, z2_4, z2_5, z2_6, z2_7, z2_8⟩ | exact ⟨z4_0, z4_1, z4_2, z4_3, z4_4, z4_5, z4_6, z4_7, z4_8⟩ | exact ⟨z6_0, z6_1, z6_2, z6_3, z6_4, z6_5, z6_6, z6_7, z6_8⟩ | exact ⟨z8_0, z8_1, z8_2, z8_3, z8_4, z8_5, z8_6, z8_7, z8_8⟩ | exact ⟨z10_0, z10_1, z10_2, z10_3, z10_4, z10_5, z10_6, z10_7, z10_8⟩) (first
    | (go_at_call 14; (with_reducible refine (H_hn1.out _).mono ?_); rintro e y1_ ⟨xa, rfl, hsxa, r⟩; have hy : Fresh w6 y1_ := (by first | exact r | exact r.of_drew | exact r.of_drewN); have z2_0 := cell_fresh m0 hy; have z2_1 := cell_fresh m1 hy; have z2_2 := cell_fresh m2 hy; have z2_3 := cell_fresh m3 hy; have z2_4 := cell_fresh m4 hy; have z2_5 := cell_fresh m5 hy; have z2_6 := cell_fresh m6 hy; have z2_7 := cell_fresh m7 hy; have z2_8 := cell_fresh m8 hy; have fy1_ := hy; have H_fy1_ := Lib.hid fy1_; have H_hyxa := Lib.hid hy; have H_hsxa := Lib.hid hsxa; clear r hy hsxa fy1_)
    | (go_at_call 14; (with_reducible refine (H_hn2.out _).mono ?_); rintro e y3_ ⟨xb, rfl, hsxb, r⟩; have hy : Fresh y1_ y3_ := r; have z4_0 := cell_fresh z2_0 hy; have z4_1 := cell_fresh z2_1 hy; have z4_2 := cell_fresh z2_2 hy; have z4_3 := cell_fresh z2_3 hy; have z4_4 := cell_fresh z2_4 hy; have z4_5 := cell_fresh z2_5 hy; have z4_6 := cell_fresh z2_6 hy; have z4_7 := cell_fresh z2_7 hy; have z4_8 := cell_fresh z2_8 hy; have fy3_ := fresh_trans H_fy1_.out hy; have H_fy3_ := Lib.hid fy3_; have H_hyxb := Lib.hid hy; have H_hsxb := Lib.hid hsxb; clear r hy hsxb fy3_)
    | (go_at_call 26; (with_reducible refine (H_hop.out _ _ _ (H_hsxa.out.fresh H_hyxb.out) H_hsxb.out).mono ?_); rintro e y5_ ⟨xc, rfl, hsxc, r⟩; have hy : Fresh y3_ y5_ := r; have z6_0 := cell_fresh z4_0 hy; have z6_1 := cell_fresh z4_1 hy; have z6_2 := cell_fresh z4_2 hy; have z6_3 := cell_fresh z4_3 hy; have z6_4 := cell_fresh z4_4 hy; have z6_5 := cell_fresh z4_5 hy; have z6_6 := cell_fresh z4_6 hy; have z6_7 := cell_fresh z4_7 hy; have z6_8 := cell_fresh z4_8 hy; have fy5_ := fresh_trans H_fy3_.out hy; have H_fy5_ := Lib.hid fy5_; have H_hyxc := Lib.hid hy; have H_hsxc := Lib.hid hsxc; clear r hy hsxc fy5_)
    | (go_at_call 30; (with_reducible refine (H_hgv.out _ _ (fresh_trans H_fa.out H_fy5_.out) H_hsxc.out).mono ?_); rintro e y7_ ⟨rfl, r⟩; have hy : Fresh y5_ y7_ := r; have z8_0 := cell_fresh z6_0 hy; have z8_1 := cell_fresh z6_1 hy; have z8_2 := cell_fresh z6_2 hy; have z8_3 := cell_fresh z6_3 hy; have z8_4 := cell_fresh z6_4 hy; have z8_5 := cell_fresh z6_5 hy; have z8_6 := cell_fresh z6_6 hy; have z8_7 := cell_fresh z6_7 hy; have z8_8 := cell_fresh z6_8 hy; have fy7_ := fresh_trans H_fy5_.out hy; have H_fy7_ := Lib.hid fy7_; clear r hy fy7_)
    | (go_at_call 21; (with_reducible refine (gvLives_any _).mono ?_); rintro e y9_ ⟨rfl, r⟩; have hy : Fresh y7_ y9_ := r; have z10_0 := cell_fresh z8_0 hy; have z10_1 := cell_fresh z8_1 hy; have z10_2 := cell_fresh z8_2 hy; have z10_3 := cell_fresh z8_3 hy; have z10_4 := cell_fresh z8_4 hy; have z10_5 := cell_fresh z8_5 hy; have z10_6 := cell_fresh z8_6 hy; have z10_7 := cell_fresh z8_7 hy; have z10_8 := cell_fresh z8_8 hy; have fy9_ := fresh_trans H_fy7_.out hy; have H_fy9_ := Lib.hid fy9_; clear r hy fy9_))
  go_wp2
  go_ret
  exact ⟨by rfl, fresh_trans H_fa.out H_fy9_.out⟩

set_option maxRecDepth 20000 in
set_option maxHeartbeats 2000000 in
theorem FnFixMulSmall_out (n1 n2 : Bool) (c1 c2 : Nat) (s1 s2 : Int) (sc : Int) (w : World) (h : (fixIs c1 s1 && fixIs c2 s2) = false) :
    Calls Tryz.prog 8 #[.agg #[.bool n1, .int .u64 c1, .int .i64 s1], .agg #[.bool n2, .int .u64 c2, .int .i64 s2], .int .i64 sc] w (VRet w (.bool true)) := by
  obtain ⟨g, hg⟩ : ∃ g, g = w.heap.size := ⟨_, rfl⟩
  have bx := boxes3 w #[.bool n1, .int .u64 c1, .int .i64 s1] #[.bool n2, .int .u64 c2, .int .i64 s2] #[.bool n1, .int .u64 c1, .int .i64 s1, .bool n2, .int .u64 c2, .int .i64 s2] 24 24 24 g hg
  have H_bx := Lib.hid bx; clear bx
  have H_h := Lib.hid h; clear h
  go_enter Tryz.func8, Tryz.ntmps8
  go_wp2_with (fail)
  generalize hw1 : ((w.alloc _).alloc _).alloc _ = w1
  rw [← hg]
  obtain ⟨d1, d2, d3, fa, _⟩ := H_bx.out w1 hw1
  refine (FixAll_two n1 n2 c1 c2 s1 s2 _ _ d3).mono ?_
  rintro e w2 ⟨rfl, f2⟩
  rw [H_h.out]
  have H_d1 := Lib.hid d1; clear d1
  have H_d2 := Lib.hid d2; clear d2
  have H_d3 := Lib.hid d3; clear d3
  have H_fa := Lib.hid fa; clear fa
  have H_hw1 := Lib.hid hw1; clear hw1
  have H_hg := Lib.hid hg; clear hg
  have H_f2 := Lib.hid f2; clear f2
  go_wp2_with (fail)
  go_ret
  exact ⟨rfl, fresh_trans H_fa.out H_f2.out⟩

set_option maxRecDepth 100000 in
set_option maxHeartbeats 8000000 in
theorem FnFixMulSmall_walk (n1 n2 nr : Bool) (c1 s1 c2 s2 cr : Nat) (sr fl : Int) (sc : Int) (w : World) (hs1 : s1 ≤ 19) (hs2 : s2 ≤ 19) (hc1 : c1 ≤ 9999999999999999999) (hc2 : c2 ≤ 9999999999999999999)
    (hcl : ∀ W, Fresh w W → Calls Tryz.prog 31 #[fx n1 c1 s1, fx n2 c2 s2, .int .i64 sc] W (VRet W (.tuple #[.agg #[.bool nr, .int .u64 cr, .int .i64 sr], .int .i64 fl])))
    (ns : Bool) (cs ss : Int) (hsm : ∀ W, Fresh w W → Calls Tryz.prog 31 #[.agg #[.bool false, .int .u64 12, .int .i64 0], .agg #[.bool false, .int .u64 12, .int .i64 0], .int .i64 0] W (VRet W (.tuple #[.agg #[.bool ns, .int .u64 cs, .int .i64 ss], .int .i64 0])))
    (hgv : ∀ W x, Fresh w W → SFr W x (zfix n1 c1 * zfix n2 c2) (10 ^ s1 * 10 ^ s2) → Calls Tryz.prog 30 #[.agg #[.bool nr, .int .u64 cr, .int .i64 sr], .int .i64 fl, x, .int .i64 sc] W (VRet W (.bool true))) :
    Calls Tryz.prog 8 #[fx n1 c1 s1, fx n2 c2 s2, .int .i64 sc] w (VRet w (.bool true)) := by
  have h : (fixIs c1 s1 && fixIs c2 s2) = true := by unfold fixIs; simp; omega
  have hn1 := fun W => FixNum_any n1 c1 s1 W hs1 hc1
  have hn2 := fun W => FixNum_any n2 c2 s2 W hs2 hc2
  have hop := fun W x y (hx : SFr W x (zfix n1 c1) (10 ^ s1)) (hy : SFr W y (zfix n2 c2) (10 ^ s2)) => FracMul_any x y _ _ _ _ W hx hy (zfix_spow hc1) (zfix_spow hc2) (ten_spow hs1) (ten_spow hs2)
  obtain ⟨g, hg⟩ : ∃ g, g = w.heap.size := ⟨_, rfl⟩
  have bx := boxes3 w #[.bool n1, .int .u64 c1, .int .i64 s1] #[.bool n2, .int .u64 c2, .int .i64 s2] #[.bool n1, .int .u64 c1, .int .i64 s1, .bool n2, .int .u64 c2, .int .i64 s2] 24 24 24 g hg
  have H_bx := Lib.hid bx; clear bx
  have H_h := Lib.hid h; clear h
  have H_hcl := Lib.hid hcl; clear hcl
  have H_hn1 := Lib.hid hn1; clear hn1
  have H_hn2 := Lib.hid hn2; clear hn2
  have H_hop := Lib.hid hop; clear hop
  have H_hgv := Lib.hid hgv; clear hgv
  have H_hsm := Lib.hid hsm; clear hsm
  go_enter Tryz.func8, Tryz.ntmps8
  go_wp2_with (fail)
  generalize hw1 : ((w.alloc _).alloc _).alloc _ = w1
  rw [← hg]
  obtain ⟨d1, d2, d3, fa, _⟩ := H_bx.out w1 hw1
  refine (FixAll_two n1 n2 c1 c2 s1 s2 _ _ d3).mono ?_
  rintro e w2 ⟨rfl, f2⟩
  rw [H_h.out]
  clear d3
  have H_d1 := Lib.hid d1; clear d1
  have H_d2 := Lib.hid d2; clear d2
  have H_fa := Lib.hid fa; clear fa
  have H_hw1 := Lib.hid hw1; clear hw1
  have H_hg := Lib.hid hg; clear hg
  have d1 := row_fresh H_d1.out f2
  have d2 := row_fresh H_d2.out f2
  have fa := fresh_trans H_fa.out f2
  have m0 := row_cell d1 0
  have m1 := row_cell d1 1
  have m2 := row_cell d1 2
  have m3 := row_cell d2 0
  have m4 := row_cell d2 1
  have m5 := row_cell d2 2
  simp at m0 m1 m2 m3 m4 m5
  have H_f2 := Lib.hid f2; clear f2
  clear H_d1 H_d2 H_fa
  have H_d1 := Lib.hid d1; clear d1
  have H_d2 := Lib.hid d2; clear d2
  have H_fa := Lib.hid fa; clear fa
  go_wp2_with (fail)
  refine (H_hcl.out _ H_fa.out).mono ?_
  rintro e w3 ⟨rfl, f3⟩
  have d1 := row_fresh H_d1.out f3
  have d2 := row_fresh H_d2.out f3
  have fa := fresh_trans H_fa.out f3
  clear m0 m1 m2 m3 m4 m5
  obtain ⟨h7, hh7⟩ : ∃ h, h = w3.heap.size := ⟨_, rfl⟩
  have by7 := boxes2 w3 #[.bool nr, .int .u64 cr, .int .i64 sr] #[.bool false, .int .u64 12, .int .i64 0] 24 24 h7 hh7
  have H_f3 := Lib.hid f3; clear f3
  have H_hh7 := Lib.hid hh7; clear hh7
  have H_by7 := Lib.hid by7; clear by7
  clear H_d1 H_d2 H_fa
  have H_d1 := Lib.hid d1; clear d1
  have H_d2 := Lib.hid d2; clear d2
  have H_fa := Lib.hid fa; clear fa
  go_wp2_with (fail)
  generalize hw4 : (w3.alloc _).alloc _ = w4
  rw [← H_hh7.out]
  obtain ⟨r7, r9, f4⟩ := H_by7.out w4 hw4
  have d1 := row_fresh H_d1.out f4
  have d2 := row_fresh H_d2.out f4
  have fa := fresh_trans H_fa.out f4
  have H_f4 := Lib.hid f4; clear f4
  have H_hw4 := Lib.hid hw4; clear hw4
  clear H_d1 H_d2 H_fa
  have H_d1 := Lib.hid d1; clear d1
  have H_d2 := Lib.hid d2; clear d2
  have H_r7 := Lib.hid r7; clear r7
  have H_r9 := Lib.hid r9; clear r9
  have H_fa := Lib.hid fa; clear fa
  refine (H_hsm.out _ H_fa.out).mono ?_
  rintro e w5 ⟨rfl, f5⟩
  have d1 := row_fresh H_d1.out f5
  have d2 := row_fresh H_d2.out f5
  have r7 := row_fresh H_r7.out f5
  have r9 := row_fresh H_r9.out f5
  have fa := fresh_trans H_fa.out f5
  obtain ⟨h8, hh8⟩ : ∃ h, h = w5.heap.size := ⟨_, rfl⟩
  have H_f5 := Lib.hid f5; clear f5
  have H_hh8 := Lib.hid hh8; clear hh8
  clear H_d1 H_d2 H_r7 H_r9 H_fa
  have H_d1 := Lib.hid d1; clear d1
  have H_d2 := Lib.hid d2; clear d2
  have H_r7 := Lib.hid r7; clear r7
  have H_r9 := Lib.hid r9; clear r9
  have H_fa := Lib.hid fa; clear fa
  go_wp2_with (fail)
  generalize hw6 : w5.alloc _ = w6
  have f6 : Fresh w5 w6 := by rw [← hw6]; exact (Keep.refl _ _).alloc _
  have d1 := row_fresh H_d1.out f6
  have d2 := row_fresh H_d2.out f6
  have r7 := row_fresh H_r7.out f6
  have r9 := row_fresh H_r9.out f6
  have fa := fresh_trans H_fa.out f6
  have m0 := row_cell r7 0
  have m1 := row_cell r7 1
  have m2 := row_cell r7 2
  have m3 := row_cell d1 0
  have m4 := row_cell d1 1
  have m5 := row_cell d1 2
  have m6 := row_cell d2 0
  have m7 := row_cell d2 1
  have m8 := row_cell d2 2
  simp at m0 m1 m2 m3 m4 m5 m6 m7 m8
  have H_f6 := Lib.hid f6; clear f6
  have H_hw6 := Lib.hid hw6; clear hw6
  clear H_d1 H_d2 H_r7 H_r9 H_fa
  have H_d1 := Lib.hid d1; clear d1
  have H_d2 := Lib.hid d2; clear d2
  have H_r7 := Lib.hid r7; clear r7
  have H_r9 := Lib.hid r9; clear r9
  have H_fa := Lib.hid fa; clear fa
  go_region_held3 (fun (w' : World) => w'.cell? ⟨h7, 0, none⟩ = some (.bool nr) ∧ w'.cell? ⟨h7, 1, none⟩ = some (.int .u64 cr) ∧ w'.cell? ⟨h7, 2, none⟩ = some (.int .i64 sr) ∧ w'.cell? ⟨g, 0, none⟩ = some (.bool n1) ∧ w'.cell? ⟨g, 1, none⟩ = some (.int .u64 c1) ∧ w'.cell? ⟨g, 2, none⟩ = some (.int .i64 s1) ∧ w'.cell? ⟨g + 1, 0, none⟩ = some (.bool n2) ∧ w'.cell? ⟨g + 1, 1, none⟩ = some (.int .u64 c2) ∧ w'.cell? ⟨g + 1, 2, none⟩ = some (.int .i64 s2)) (first | exact ⟨m0, m1, m2, m3, m4, m5, m6, m7, m8⟩ | exact ⟨z2_0, z2_1, z2_2, z2_3, z2_4, z2_5, z2_6, z2_7, z2_8⟩ | exact ⟨z4_0, z4_1, z4_2, z4_3, z4_4, z4_5, z4_6, z4_7, z4_8⟩ | exact ⟨z6_0, z6_1, z6_2, z6_3, z6_4, z6_5, z6_6, z6_7, z6_8⟩ | exact ⟨z8_0, z8_1, z8_2, z8_3, z8_4, z8_5, z8_6, z8_7, z8_8⟩ | exact ⟨z10_0, z10_1, z10_2, z10_3, z10_4, z10_5, z10_6, z10_7, z10_8⟩) (first
    | (go_at_call 14; (with_reducible refine (H_hn1.out _).mono ?_); rintro e y1_ ⟨xa, rfl, hsxa, r⟩; have hy : Fresh w6 y1_ := (by first | exact r | exact r.of_drew | exact r.of_drewN); have z2_0 := cell_fresh m0 hy; have z2_1 := cell_fresh m1 hy; have z2_2 := cell_fresh m2 hy; have z2_3 := cell_fresh m3 hy; have z2_4 := cell_fresh m4 hy; have z2_5 := cell_fresh m5 hy; have z2_6 := cell_fresh m6 hy; have z2_7 := cell_fresh m7 hy; have z2_8 := cell_fresh m8 hy; have fy1_ := hy; have H_fy1_ := Lib.hid fy1_; have H_hyxa := Lib.hid hy; have H_hsxa := Lib.hid hsxa; clear r hy hsxa fy1_)
    | (go_at_call 14; (with_reducible refine (H_hn2.out _).mono ?_); rintro e y3_ ⟨xb, rfl, hsxb, r⟩; have hy : Fresh y1_ y3_ := r; have z4_0 := cell_fresh z2_0 hy; have z4_1 := cell_fresh z2_1 hy; have z4_2 := cell_fresh z2_2 hy; have z4_3 := cell_fresh z2_3 hy; have z4_4 := cell_fresh z2_4 hy; have z4_5 := cell_fresh z2_5 hy; have z4_6 := cell_fresh z2_6 hy; have z4_7 := cell_fresh z2_7 hy; have z4_8 := cell_fresh z2_8 hy; have fy3_ := fresh_trans H_fy1_.out hy; have H_fy3_ := Lib.hid fy3_; have H_hyxb := Lib.hid hy; have H_hsxb := Lib.hid hsxb; clear r hy hsxb fy3_)
    | (go_at_call 24; (with_reducible refine (H_hop.out _ _ _ (H_hsxa.out.fresh H_hyxb.out) H_hsxb.out).mono ?_); rintro e y5_ ⟨xc, rfl, hsxc, r⟩; have hy : Fresh y3_ y5_ := r; have z6_0 := cell_fresh z4_0 hy; have z6_1 := cell_fresh z4_1 hy; have z6_2 := cell_fresh z4_2 hy; have z6_3 := cell_fresh z4_3 hy; have z6_4 := cell_fresh z4_4 hy; have z6_5 := cell_fresh z4_5 hy; have z6_6 := cell_fresh z4_6 hy; have z6_7 := cell_fresh z4_7 hy; have z6_8 := cell_fresh z4_8 hy; have fy5_ := fresh_trans H_fy3_.out hy; have H_fy5_ := Lib.hid fy5_; have H_hyxc := Lib.hid hy; have H_hsxc := Lib.hid hsxc; clear r hy hsxc fy5_)
    | (go_at_call 30; (with_reducible refine (H_hgv.out _ _ (fresh_trans H_fa.out H_fy5_.out) H_hsxc.out).mono ?_); rintro e y7_ ⟨rfl, r⟩; have hy : Fresh y5_ y7_ := r; have z8_0 := cell_fresh z6_0 hy; have z8_1 := cell_fresh z6_1 hy; have z8_2 := cell_fresh z6_2 hy; have z8_3 := cell_fresh z6_3 hy; have z8_4 := cell_fresh z6_4 hy; have z8_5 := cell_fresh z6_5 hy; have z8_6 := cell_fresh z6_6 hy; have z8_7 := cell_fresh z6_7 hy; have z8_8 := cell_fresh z6_8 hy; have fy7_ := fresh_trans H_fy5_.out hy; have H_fy7_ := Lib.hid fy7_; clear r hy fy7_)
    | (go_at_call 21; (with_reducible refine (gvLives_any _).mono ?_); rintro e y9_ ⟨rfl, r⟩; have hy : Fresh y7_ y9_ := r; have z10_0 := cell_fresh z8_0 hy; have z10_1 := cell_fresh z8_1 hy; have z10_2 := cell_fresh z8_2 hy; have z10_3 := cell_fresh z8_3 hy; have z10_4 := cell_fresh z8_4 hy; have z10_5 := cell_fresh z8_5 hy; have z10_6 := cell_fresh z8_6 hy; have z10_7 := cell_fresh z8_7 hy; have z10_8 := cell_fresh z8_8 hy; have fy9_ := fresh_trans H_fy7_.out hy; have H_fy9_ := Lib.hid fy9_; clear r hy fy9_))
  go_wp2
  go_ret
  exact ⟨by rfl, fresh_trans H_fa.out H_fy9_.out⟩

theorem frac_bounds {n1 n2 : Bool} {c1 s1 c2 s2 : Nat} (hs1 : s1 ≤ 19) (hs2 : s2 ≤ 19) (hc1 : c1 ≤ 9999999999999999999) (hc2 : c2 ≤ 9999999999999999999) :
    0 < 10 ^ s1 * 10 ^ s2 ∧ 10 ^ s1 * 10 ^ s2 < spow 300 ∧ (zfix n1 c1 * ((10 ^ s2 : Nat) : Int) + zfix n2 c2 * ((10 ^ s1 : Nat) : Int)).natAbs < spow 300 ∧ (zfix n1 c1 * zfix n2 c2).natAbs < spow 300 := by
  have p1 : 10 ^ s1 ≤ 10 ^ 19 := Nat.pow_le_pow_right (by omega) hs1
  have p2 : 10 ^ s2 ≤ 10 ^ 19 := Nat.pow_le_pow_right (by omega) hs2
  have q1 : 0 < 10 ^ s1 := Nat.pow_pos (by omega)
  have q2 : 0 < 10 ^ s2 := Nat.pow_pos (by omega)
  have e5 : spow 5 = 1000000000000000000000000000000000000000000000 := rfl
  have e300 : spow 5 ≤ spow 300 := spow_mono (by omega)
  have m1 : 10 ^ s1 * 10 ^ s2 ≤ 10 ^ 19 * 10 ^ 19 := Nat.mul_le_mul p1 p2
  have m2 : c1 * 10 ^ s2 ≤ 9999999999999999999 * 10 ^ 19 := Nat.mul_le_mul hc1 p2
  have m3 : c2 * 10 ^ s1 ≤ 9999999999999999999 * 10 ^ 19 := Nat.mul_le_mul hc2 p1
  have m4 : c1 * c2 ≤ 9999999999999999999 * 9999999999999999999 := Nat.mul_le_mul hc1 hc2
  have a1 : (zfix n1 c1).natAbs = c1 := by unfold zfix; split <;> simp
  have a2 : (zfix n2 c2).natAbs = c2 := by unfold zfix; split <;> simp
  refine ⟨Nat.mul_pos q1 q2, by omega, ?_, ?_⟩
  · have h1 := Int.natAbs_add_le (zfix n1 c1 * ((10 ^ s2 : Nat) : Int)) (zfix n2 c2 * ((10 ^ s1 : Nat) : Int))
    rw [Int.natAbs_mul, Int.natAbs_mul, a1, a2, Int.natAbs_natCast, Int.natAbs_natCast] at h1
    omega
  · rw [Int.natAbs_mul, a1, a2]
    omega

theorem FnFixAddSmall_main (n1 n2 : Bool) (c1 s1 c2 s2 : Nat) (sc : Int) (w : World) (hP : Pow10s w) (hE : ErrIs w) (hs1 : s1 ≤ 19) (hs2 : s2 ≤ 19) (hc1 : c1 ≤ 9999999999999999999) (hc2 : c2 ≤ 9999999999999999999) :
    Calls Tryz.prog 7 #[fx n1 c1 s1, fx n2 c2 s2, .int .i64 sc] w (VRet w (.bool true)) := by
  obtain ⟨hd, hdd, hb3, hb4⟩ := frac_bounds (n1 := n1) (n2 := n2) hs1 hs2 hc1 hc2
  -- what the small numbers make
  have hsmall : ∃ (ns : Bool) (cs ss : Int), ∀ W, Fresh w W → Calls Tryz.prog 29 #[.agg #[.bool false, .int .u64 12, .int .i64 0], .agg #[.bool false, .int .u64 12, .int .i64 0], .int .i64 0] W (VRet W (.tuple #[.agg #[.bool ns, .int .u64 cs, .int .i64 ss], .int .i64 0])) := by
    refine ⟨false, 24, 0, fun W hW => ?_⟩
    have hnf : ∀ V, Fresh W V → Calls Tryz.prog 123 #[.bool false, .int .u64 (12 + 12 : Nat), .int .i64 (0 : Nat), .int .i64 (0 : Nat)] V (DOut V false 0 24 NoErr) := fun V hV => (newFromFint_mid false 24 0 0 V ((hP.fresh hW).fresh hV) (by omega) (by omega) (by omega)).mono (fun _ _ h => DOut.of_ok h)
    exact FixAddSmall_ok false false false 12 0 12 0 24 0 0 (by omega) W (by omega) (by omega) (by omega) (by omega) (by omega) (fun V hV => (ZzAddSmall_go _ _ false 12 0 12 0 0 V 0 24 NoErr (fun U hU => addFint_eq_same false false false 12 0 12 0 U (((hP.fresh hW).fresh hV).fresh hU) 0 (by omega) (by omega) (by omega) (by omega) rfl rfl (by omega) 0 24 NoErr (fun T hT => hnf T (fresh_trans hV (fresh_trans hU hT))))).mono (fun _ _ h => h.ok))
  obtain ⟨ns, cs, ss, hsm⟩ := hsmall
  by_cases hsc : 0 ≤ sc ∧ sc ≤ 19
  · obtain ⟨ms, rfl⟩ := Int.eq_ofNat_of_zero_le hsc.1
    have hms : ms ≤ 19 := by omega
    have hlaw := addFint_law (n1 && decide (0 < c1)) (n2 && decide (0 < c2)) c1 s1 c2 s2 ms hms hs1 hs2 hc1 hc2
    rw [zfix_canon, zfix_canon] at hlaw
    rcases hlaw with herr | ⟨nz, sz, cz, hok, hg1, hg2, hg3, hg4⟩
    · exact FnFixAddSmall_walk n1 n2 false c1 s1 c2 s2 0 0 1 ms w hs1 hs2 hc1 hc2
        (fun W hW => FixAddSmall_err n1 n2 c1 s1 c2 s2 ms hms W hs1 hs2 hc1 hc2 (fun V hV => (ZzAddSmall_go _ _ false c1 s1 c2 s2 ms V 0 0 AnErr (fun U hU => (herr U (((hP.fresh hW).fresh hV).fresh hU) (((hE.fresh hW).fresh hV).fresh hU)).mono (fun _ _ h => DOut.of_err h))).mono (fun _ _ h => h.err)))
        ns cs ss hsm (fun W x _ hx => gvSmall_not false 0 0 ms x _ _ W hx hms)
    · exact FnFixAddSmall_walk n1 n2 nz c1 s1 c2 s2 cz sz 0 ms w hs1 hs2 hc1 hc2
        (fun W hW => FixAddSmall_ok n1 n2 nz c1 s1 c2 s2 cz sz ms hms W hs1 hs2 hc1 hc2 hg1.1 (fun V hV => (ZzAddSmall_go _ _ nz c1 s1 c2 s2 ms V sz cz NoErr (fun U hU => (hok U (((hP.fresh hW).fresh hV).fresh hU) (((hE.fresh hW).fresh hV).fresh hU)).mono (fun _ _ h => DOut.of_ok h))).mono (fun _ _ h => h.ok)))
        ns cs ss hsm (fun W x _ hx => gvSmall_ok nz cz sz ms x _ _ W hx hd hb3 hdd hg1 hg2 hg3 hg4)
  · rcases Int.lt_or_le sc 0 with hlo | hlo
    · exact FnFixAddSmall_walk n1 n2 false c1 s1 c2 s2 0 0 3 sc w hs1 hs2 hc1 hc2 (fun W _ => FixAddSmall_low n1 n2 c1 s1 c2 s2 sc hlo W hs1 hs2 hc1 hc2) ns cs ss hsm (fun W x _ hx => gvSmall_out false 0 0 3 sc x _ _ W hx (.inl hlo))
    · exact FnFixAddSmall_walk n1 n2 false c1 s1 c2 s2 0 0 3 sc w hs1 hs2 hc1 hc2 (fun W _ => FixAddSmall_high n1 n2 c1 s1 c2 s2 sc (by omega) W hs1 hs2 hc1 hc2) ns cs ss hsm (fun W x _ hx => gvSmall_out false 0 0 3 sc x _ _ W hx (.inr (by omega)))

theorem FnFixMulSmall_main (n1 n2 : Bool) (c1 s1 c2 s2 : Nat) (sc : Int) (w : World) (hP : Pow10s w) (hE : ErrIs w) (hs1 : s1 ≤ 19) (hs2 : s2 ≤ 19) (hc1 : c1 ≤ 9999999999999999999) (hc2 : c2 ≤ 9999999999999999999) :
    Calls Tryz.prog 8 #[fx n1 c1 s1, fx n2 c2 s2, .int .i64 sc] w (VRet w (.bool true)) := by
  obtain ⟨hd, hdd, hb3, hb4⟩ := frac_bounds (n1 := n1) (n2 := n2) hs1 hs2 hc1 hc2
  -- what the small numbers make
  have hsmall : ∃ (ns : Bool) (cs ss : Int), ∀ W, Fresh w W → Calls Tryz.prog 31 #[.agg #[.bool false, .int .u64 12, .int .i64 0], .agg #[.bool false, .int .u64 12, .int .i64 0], .int .i64 0] W (VRet W (.tuple #[.agg #[.bool ns, .int .u64 cs, .int .i64 ss], .int .i64 0])) := by
    refine ⟨false, 144, 0, fun W hW => ?_⟩
    have hnf : ∀ V, Fresh W V → Calls Tryz.prog 123 #[.bool (false != false), .int .u64 (12 * 12 : Nat), .int .i64 (0 + 0 : Nat), .int .i64 (0 : Nat)] V (DOut V false 0 144 NoErr) := fun V hV => (newFromFint_mid false 144 0 0 V ((hP.fresh hW).fresh hV) (by omega) (by omega) (by omega)).mono (fun _ _ h => DOut.of_ok h)
    exact FixMulSmall_ok false false false 12 0 12 0 144 0 0 (by omega) W (by omega) (by omega) (by omega) (by omega) (by omega) (fun V hV => (ZzMulSmall_go _ _ false 12 0 12 0 0 V 0 144 NoErr (fun U hU => mulFint_go false false false 12 0 12 0 U 0 (by omega) (by omega) (by omega) (by omega) (by omega) 0 144 NoErr (fun T hT => hnf T (fresh_trans hV (fresh_trans hU hT))))).mono (fun _ _ h => h.ok))
  obtain ⟨ns, cs, ss, hsm⟩ := hsmall
  by_cases hsc : 0 ≤ sc ∧ sc ≤ 19
  · obtain ⟨ms, rfl⟩ := Int.eq_ofNat_of_zero_le hsc.1
    have hms : ms ≤ 19 := by omega
    have hlaw := mulFint_law (n1 && decide (0 < c1)) (n2 && decide (0 < c2)) c1 s1 c2 s2 ms hms hs1 hs2 hc1 hc2
    rw [zfix_canon, zfix_canon] at hlaw
    rcases hlaw with herr | ⟨nz, sz, cz, hok, hg1, hg2, hg3, hg4⟩
    · exact FnFixMulSmall_walk n1 n2 false c1 s1 c2 s2 0 0 1 ms w hs1 hs2 hc1 hc2
        (fun W hW => FixMulSmall_err n1 n2 c1 s1 c2 s2 ms hms W hs1 hs2 hc1 hc2 (fun V hV => (ZzMulSmall_go _ _ false c1 s1 c2 s2 ms V 0 0 AnErr (fun U hU => (herr U (((hP.fresh hW).fresh hV).fresh hU) (((hE.fresh hW).fresh hV).fresh hU)).mono (fun _ _ h => DOut.of_err h))).mono (fun _ _ h => h.err)))
        ns cs ss hsm (fun W x _ hx => gvSmall_not false 0 0 ms x _ _ W hx hms)
    · exact FnFixMulSmall_walk n1 n2 nz c1 s1 c2 s2 cz sz 0 ms w hs1 hs2 hc1 hc2
        (fun W hW => FixMulSmall_ok n1 n2 nz c1 s1 c2 s2 cz sz ms hms W hs1 hs2 hc1 hc2 hg1.1 (fun V hV => (ZzMulSmall_go _ _ nz c1 s1 c2 s2 ms V sz cz NoErr (fun U hU => (hok U (((hP.fresh hW).fresh hV).fresh hU) (((hE.fresh hW).fresh hV).fresh hU)).mono (fun _ _ h => DOut.of_ok h))).mono (fun _ _ h => h.ok)))
        ns cs ss hsm (fun W x _ hx => gvSmall_ok nz cz sz ms x _ _ W hx hd hb4 hdd hg1 hg2 hg3 hg4)
  · rcases Int.lt_or_le sc 0 with hlo | hlo
    · exact FnFixMulSmall_walk n1 n2 false c1 s1 c2 s2 0 0 3 sc w hs1 hs2 hc1 hc2 (fun W _ => FixMulSmall_low n1 n2 c1 s1 c2 s2 sc hlo W hs1 hs2 hc1 hc2) ns cs ss hsm (fun W x _ hx => gvSmall_out false 0 0 3 sc x _ _ W hx (.inl hlo))
    · exact FnFixMulSmall_walk n1 n2 false c1 s1 c2 s2 0 0 3 sc w hs1 hs2 hc1 hc2 (fun W _ => FixMulSmall_high n1 n2 c1 s1 c2 s2 sc (by omega) W hs1 hs2 hc1 hc2) ns cs ss hsm (fun W x _ hx => gvSmall_out false 0 0 3 sc x _ _ W hx (.inr (by omega)))

end Go.Proofs.YtibaeafmgncjdaaGreatDoor
