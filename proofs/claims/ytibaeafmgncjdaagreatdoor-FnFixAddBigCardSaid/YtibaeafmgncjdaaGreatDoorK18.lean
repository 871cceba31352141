/- The contracts of the laws' words gvNear, gvExact, gvBig, gvSmall. -/
import Derived.Test.YtibaeafmgncjdaaGreatDoorK14
import Derived.Test.YtibaeafmgncjdaaGreatDoorK17
namespace Go.Proofs.YtibaeafmgncjdaaGreatDoor
open Go.RowKit

theorem cmpZ_of_eq {a b : Int} (h : a = b) : cmpZ a b = 0 := by subst h; unfold cmpZ; rw [if_neg (by omega), if_neg (by omega)]

theorem spow_more {m n : Nat} {x : Nat} (h : x < spow m) (hm : m ≤ n) : x < spow n := Nat.lt_of_lt_of_le h (spow_mono hm)

set_option maxRecDepth 20000 in
set_option maxHeartbeats 4000000 in
theorem gvNear_ok (neg : Bool) (c s : Nat) (xw : Value) (z : Int) (d : Nat) (w : World) (hx : SFr w xw z d) (hd : 0 < d) (hz : z.natAbs < spow 300) (hdd : d < spow 300) (hgd : Good z.natAbs d c s) (hcan : neg = true → 0 < c) (hsg : zfix neg c = sgnN z c) :
    Calls Tryz.prog 23 #[fx neg c s, .int .i64 0, xw] w (VRet w (.bool true)) := by
  obtain ⟨na, va, la, dv, dl, rfl, ha, hna, hca, hzz, hda, hdna, hdd0⟩ := hx
  have hx : SFr w (.agg #[.bool na, va, dv]) z d := ⟨na, va, la, dv, dl, rfl, ha, hna, hca, hzz, hda, hdna, hdd0⟩
  obtain ⟨aa, ca, rfl⟩ := ha.form
  obtain ⟨ad, cd, rfl⟩ := hda.form
  clear ha hna hca hda hdna hzz hdd0
  obtain ⟨g, hg⟩ : ∃ g, g = w.heap.size := ⟨_, rfl⟩
  obtain ⟨t, ht, _, hct⟩ := good_top hd hgd
  have hs := hgd.1
  have hc := hgd.2.1
  have hfixed := fun W (hW : Fresh w W) => Fixed_some _ z d t ht W (hx.fresh hW) hd hz hdd
  have ht19 := ht.1
  have hR : rhe (z.natAbs * 10 ^ t) d < spow 400 := rhe_spow hz ht19
  have hq : cmpZ (zfix neg c * ((10 ^ t : Nat) : Int)) (sgnN z (rhe (z.natAbs * 10 ^ t) d) * ((10 ^ s : Nat) : Int)) = 0 := cmpZ_of_eq (by rw [hsg, sgnN_mul, sgnN_mul, hct])
  have bx := boxes2 w #[.bool neg, .int .u64 c, .int .i64 s] #[.bool na, .slice aa la.length ca, .slice ad dl.length cd] 24 31 g hg
  clear hgd ht hct hd hz hdd
  have H_bx := Lib.hid bx; clear bx
  have H_hfixed := Lib.hid hfixed; clear hfixed
  have H_hx := Lib.hid hx; clear hx
  have H_hcan := Lib.hid hcan; clear hcan
  have H_hsg := Lib.hid hsg; clear hsg
  have H_hs := Lib.hid hs; clear hs
  have H_hc := Lib.hid hc; clear hc
  have H_ht19 := Lib.hid ht19; clear ht19
  have H_hR := Lib.hid hR; clear hR
  have H_hq := Lib.hid hq; clear hq
  go_enter Tryz.func23, Tryz.ntmps23
  go_wp2_with (fail)
  generalize hw1 : (w.alloc _).alloc _ = w1
  rw [← hg]
  obtain ⟨b1, b2, hf⟩ := H_bx.out w1 hw1
  have k0 := row_cell b2 0
  have k1 := row_cell b2 1
  have k2 := row_cell b2 2
  simp at k0 k1 k2
  have H_b1 := Lib.hid b1; clear b1
  have H_b2 := Lib.hid b2; clear b2
  have H_hf := Lib.hid hf; clear hf
  have H_hw1 := Lib.hid hw1; clear hw1
  have H_hg := Lib.hid hg; clear hg
  go_wp2_with (fail)
  refine (H_hfixed.out _ H_hf.out).mono ?_
  rintro e w2 ⟨x, rfl, ⟨nb, v, l, rfl, s1, s2, s3, s4⟩, f2⟩
  obtain ⟨al, cl, rfl⟩ := s1.form
  obtain ⟨h, hh⟩ : ∃ h, h = w2.heap.size := ⟨_, rfl⟩
  clear k0 k1 k2
  have H_s1 := Lib.hid s1; clear s1
  have H_s2 := Lib.hid s2; clear s2
  have H_s3 := Lib.hid s3; clear s3
  have H_s4 := Lib.hid s4; clear s4
  have H_f2 := Lib.hid f2; clear f2
  have H_hh := Lib.hid hh; clear hh
  go_wp2_with (fail)
  generalize hw3 : w2.alloc _ = w3
  have f3 : Fresh w2 w3 := by rw [← hw3]; exact (Keep.refl _ _).alloc _
  have r3 : w3.heap[h]? = some (.cells #[.bool nb, .slice al l.length cl, .int .i64 (-(t : Int))] 55 (0, 0)) := by rw [← hw3, H_hh.out]; exact heap_alloc_new w2 _
  rw [← H_hh.out]
  have f3 := fresh_trans H_f2.out f3
  have s1 := H_s1.out.fresh (by rw [← hw3]; exact (Keep.refl _ _).alloc _ : Fresh w2 w3)
  have b1 := row_fresh H_b1.out f3
  have k0 := row_cell b1 0
  have k1 := row_cell b1 1
  have k2 := row_cell b1 2
  have k3 := row_cell r3 0
  have k4 := row_cell r3 1
  have k5 := row_cell r3 2
  simp at k0 k1 k2 k3 k4 k5
  have hll : l.length ≤ 400 := H_s2.out.s_len_le (by rw [sgn_sint H_s4.out]; exact H_hR.out)
  have hfrac := fun W (hW : Fresh w3 W) => DecFrac_any nb _ l t W (s1.fresh hW) H_s2.out H_s3.out (by have := H_ht19.out; omega) (by omega)
  rw [H_s4.out] at hfrac
  have hhas := fun W x (hxx : SFr W x (sgnN z (rhe (z.natAbs * 10 ^ t) d)) (10 ^ t)) => FixHas_same neg c s x W H_hs.out H_hc.out H_hcan.out _ _ (by rw [sgnN_abs]; exact spow_more H_hR.out (by omega)) (ten_spow H_ht19.out) H_hq.out hxx
  clear H_s1 H_b1 b1 hll
  have H_f3 := Lib.hid f3; clear f3
  have H_s1 := Lib.hid s1; clear s1
  have H_r3 := Lib.hid r3; clear r3
  have H_hfrac := Lib.hid hfrac; clear hfrac
  have H_hhas := Lib.hid hhas; clear hhas
  have H_hw3 := Lib.hid hw3; clear hw3
  go_wp2_with (fail)
  go_region_held3 (fun (w' : World) => w'.cell? ⟨g, 0, none⟩ = some (.bool neg) ∧ w'.cell? ⟨g, 1, none⟩ = some (.int .u64 c) ∧ w'.cell? ⟨g, 2, none⟩ = some (.int .i64 s) ∧ w'.cell? ⟨h, 0, none⟩ = some (.bool nb) ∧ w'.cell? ⟨h, 1, none⟩ = some (.slice al l.length cl) ∧ w'.cell? ⟨h, 2, none⟩ = some (.int .i64 (-(t : Int)))) (first | exact ⟨k0, k1, k2, k3, k4, k5⟩ | exact ⟨m0, m1, m2, m3, m4, m5⟩ | exact ⟨nc0, nc1, nc2, nc3, nc4, nc5⟩) (first
    | (go_at_call 43; (with_reducible refine (H_hfrac.out _ ?c1).mono ?_); (case c1 => first | exact Keep.refl _ _ | exact (Keep.refl _ _).drew | exact (Keep.refl _ _).drewN _); rintro e w4 ⟨x4, rfl, y4, f4⟩; have hf4 : Fresh w3 w4 := (by first | exact f4 | exact f4.of_drew | exact f4.of_drewN); have m0 := cell_fresh k0 hf4; have m1 := cell_fresh k1 hf4; have m2 := cell_fresh k2 hf4; have m3 := cell_fresh k3 hf4; have m4 := cell_fresh k4 hf4; have m5 := cell_fresh k5 hf4; have H_y4 := Lib.hid y4; have H_hf4 := Lib.hid hf4; clear y4 f4 hf4)
    | (go_at_call 36; (with_reducible refine (H_hhas.out _ _ H_y4.out).mono ?_); rintro e w5 ⟨rfl, f5⟩; have nc0 := cell_fresh m0 f5; have nc1 := cell_fresh m1 f5; have nc2 := cell_fresh m2 f5; have nc3 := cell_fresh m3 f5; have nc4 := cell_fresh m4 f5; have nc5 := cell_fresh m5 f5; have H_f5 := Lib.hid f5; clear f5))
  go_wp2
  go_ret
  exact ⟨rfl, fresh_trans (fresh_trans (fresh_trans H_hf.out H_f3.out) H_hf4.out) H_f5.out⟩

set_option maxRecDepth 20000 in
set_option maxHeartbeats 4000000 in
theorem gvNear_err (neg : Bool) (c : Nat) (s : Int) (xw : Value) (z : Int) (d : Nat) (w : World) (hx : SFr w xw z d) (hd : 0 < d) (hz : z.natAbs < spow 300) (hdd : d < spow 300) (hno : ¬ okN z.natAbs d 0) :
    Calls Tryz.prog 23 #[.agg #[.bool neg, .int .u64 c, .int .i64 s], .int .i64 1, xw] w (VRet w (.bool true)) := by
  obtain ⟨na, va, la, dv, dl, rfl, ha, hna, hca, hzz, hda, hdna, hdd0⟩ := hx
  have hx : SFr w (.agg #[.bool na, va, dv]) z d := ⟨na, va, la, dv, dl, rfl, ha, hna, hca, hzz, hda, hdna, hdd0⟩
  obtain ⟨aa, ca, rfl⟩ := ha.form
  obtain ⟨ad, cd, rfl⟩ := hda.form
  clear ha hna hca hda hdna hzz hdd0
  obtain ⟨g, hg⟩ : ∃ g, g = w.heap.size := ⟨_, rfl⟩
  have hfixed := fun W (hW : Fresh w W) => Fixed_none _ z d hno W (hx.fresh hW) hd hz hdd
  have bx := boxes2 w #[.bool neg, .int .u64 c, .int .i64 s] #[.bool na, .slice aa la.length ca, .slice ad dl.length cd] 24 31 g hg
  clear hno hd hz hdd
  have H_bx := Lib.hid bx; clear bx
  have H_hfixed := Lib.hid hfixed; clear hfixed
  have H_hx := Lib.hid hx; clear hx
  go_enter Tryz.func23, Tryz.ntmps23
  go_wp2_with (fail)
  generalize hw1 : (w.alloc _).alloc _ = w1
  rw [← hg]
  obtain ⟨b1, b2, hf⟩ := H_bx.out w1 hw1
  have k0 := row_cell b2 0
  have k1 := row_cell b2 1
  have k2 := row_cell b2 2
  simp at k0 k1 k2
  have H_b1 := Lib.hid b1; clear b1
  have H_b2 := Lib.hid b2; clear b2
  have H_hf := Lib.hid hf; clear hf
  have H_hw1 := Lib.hid hw1; clear hw1
  have H_hg := Lib.hid hg; clear hg
  go_wp2_with (fail)
  refine (H_hfixed.out _ H_hf.out).mono ?_
  rintro e w2 ⟨rfl, f2⟩
  clear k0 k1 k2
  have H_f2 := Lib.hid f2; clear f2
  go_wp2_with (fail)
  go_ret
  exact ⟨rfl, fresh_trans H_hf.out ((H_f2.out).alloc _)⟩

set_option maxRecDepth 20000 in
set_option maxHeartbeats 4000000 in
theorem gvExact_ok (neg : Bool) (c s ms : Nat) (xw : Value) (z : Int) (d : Nat) (w : World) (hx : SFr w xw z d) (hd : 0 < d) (hz : z.natAbs < spow 300) (hdd : d < spow 300) (hgd : Good z.natAbs d c s) (hms : ms ≤ s) (hcan : neg = true → 0 < c) (hsg : zfix neg c = sgnN z c) :
    Calls Tryz.prog 65 #[fx neg c s, .int .i64 0, xw, .int .i64 ms] w (VRet w (.bool true)) := by
  obtain ⟨na, va, la, dv, dl, rfl, ha, hna, hca, hzz, hda, hdna, hdd0⟩ := hx
  have hx : SFr w (.agg #[.bool na, va, dv]) z d := ⟨na, va, la, dv, dl, rfl, ha, hna, hca, hzz, hda, hdna, hdd0⟩
  obtain ⟨aa, ca, rfl⟩ := ha.form
  obtain ⟨ad, cd, rfl⟩ := hda.form
  clear ha hna hca hda hdna hzz hdd0
  obtain ⟨g, hg⟩ : ∃ g, g = w.heap.size := ⟨_, rfl⟩
  obtain ⟨r, hr⟩ := room_ex z.natAbs d
  have hsr : (s : Int) ≤ r := by
    obtain ⟨t, ht, hst, _⟩ := good_top hd hgd
    rcases hr with ⟨t', rfl, h⟩ | ⟨_, h⟩
    · have := top_unique hd ht h
      omega
    · exact absurd (okN_anti hd (Nat.zero_le t) ht.2.1) h
  have hs19 := hgd.1
  have hroom := fun W (hW : Fresh w W) => Room_any _ z d r W (hx.fresh hW) hd hz hdd hr
  have hnear := fun W (hW : Fresh w W) => gvNear_ok neg c s _ z d W (hx.fresh hW) hd hz hdd hgd hcan hsg
  have t1 : decide ((ms : Int) < 0) = false := by simp
  have t2 : decide (19 < (ms : Int)) = false := by simp; omega
  have t3 : decide (r < (ms : Int)) = false := by simp; omega
  have t3n : ¬ r < (ms : Int) := by omega
  have t4 : decide ((ms : Int) ≤ (s : Int)) = true := by simp; omega
  have bx := boxes2 w #[.bool neg, .int .u64 c, .int .i64 s] #[.bool na, .slice aa la.length ca, .slice ad dl.length cd] 24 31 g hg
  clear hgd hr hsr hd hz hdd
  have H_bx := Lib.hid bx; clear bx
  have H_hroom := Lib.hid hroom; clear hroom
  have H_hnear := Lib.hid hnear; clear hnear
  have H_hx := Lib.hid hx; clear hx
  have H_hcan := Lib.hid hcan; clear hcan
  have H_hsg := Lib.hid hsg; clear hsg
  go_enter Tryz.func65, Tryz.ntmps65
  go_wp2_with (fail)
  generalize hw1 : (w.alloc _).alloc _ = w1
  rw [← hg]
  obtain ⟨b1, b2, hf⟩ := H_bx.out w1 hw1
  have k0 := row_cell b2 0
  have k1 := row_cell b2 1
  have k2 := row_cell b2 2
  simp at k0 k1 k2
  have H_b1 := Lib.hid b1; clear b1
  have H_b2 := Lib.hid b2; clear b2
  have H_hf := Lib.hid hf; clear hf
  have H_hw1 := Lib.hid hw1; clear hw1
  have H_hg := Lib.hid hg; clear hg
  go_wp2_with (fail)
  refine (H_hroom.out _ H_hf.out).mono ?_
  rintro e w2 ⟨rfl, f2⟩
  have b1 := row_fresh H_b1.out f2
  have b2 := row_fresh H_b2.out f2
  have f2 := fresh_trans H_hf.out f2
  clear k0 k1 k2 H_b1 H_b2
  have k0 := row_cell b2 0
  have k1 := row_cell b2 1
  have k2 := row_cell b2 2
  have k3 := row_cell b1 0
  have k4 := row_cell b1 1
  have k5 := row_cell b1 2
  simp at k0 k1 k2 k3 k4 k5
  have H_b1 := Lib.hid b1; clear b1
  have H_b2 := Lib.hid b2; clear b2
  have H_f2 := Lib.hid f2; clear f2
  go_wp2_with (fail)
  refine (H_hnear.out _ H_f2.out).mono ?_
  rintro e w3 ⟨rfl, f3⟩
  have H_f3 := Lib.hid f3; clear f3
  go_wp2_with (fail)
  go_ret
  exact ⟨rfl, fresh_trans H_f2.out H_f3.out⟩

set_option maxRecDepth 20000 in
set_option maxHeartbeats 4000000 in
theorem gvExact_err (neg : Bool) (c ms : Nat) (s : Int) (xw : Value) (z : Int) (d : Nat) (w : World) (hx : SFr w xw z d) (hd : 0 < d) (hz : z.natAbs < spow 300) (hdd : d < spow 300) (hms : ms ≤ 19) (hno : ¬ okN z.natAbs d ms) :
    Calls Tryz.prog 65 #[.agg #[.bool neg, .int .u64 c, .int .i64 s], .int .i64 1, xw, .int .i64 ms] w (VRet w (.bool true)) := by
  obtain ⟨na, va, la, dv, dl, rfl, ha, hna, hca, hzz, hda, hdna, hdd0⟩ := hx
  have hx : SFr w (.agg #[.bool na, va, dv]) z d := ⟨na, va, la, dv, dl, rfl, ha, hna, hca, hzz, hda, hdna, hdd0⟩
  obtain ⟨aa, ca, rfl⟩ := ha.form
  obtain ⟨ad, cd, rfl⟩ := hda.form
  clear ha hna hca hda hdna hzz hdd0
  obtain ⟨g, hg⟩ : ∃ g, g = w.heap.size := ⟨_, rfl⟩
  obtain ⟨r, hr⟩ := room_ex z.natAbs d
  have hsr : r < (ms : Int) := by
    rcases hr with ⟨t', rfl, h⟩ | ⟨h, _⟩
    · rcases Nat.lt_or_ge t' ms with h1 | h1
      · omega
      · exact absurd (okN_anti hd h1 h.2.1) hno
    · omega
  have hroom := fun W (hW : Fresh w W) => Room_any _ z d r W (hx.fresh hW) hd hz hdd hr
  have t1 : decide ((ms : Int) < 0) = false := by simp
  have t2 : decide (19 < (ms : Int)) = false := by simp; omega
  have t3 : decide (r < (ms : Int)) = true := by simp; omega
  have bx := boxes2 w #[.bool neg, .int .u64 c, .int .i64 s] #[.bool na, .slice aa la.length ca, .slice ad dl.length cd] 24 31 g hg
  clear hr hd hz hdd hno
  have H_bx := Lib.hid bx; clear bx
  have H_hroom := Lib.hid hroom; clear hroom
  have H_hx := Lib.hid hx; clear hx
  go_enter Tryz.func65, Tryz.ntmps65
  go_wp2_with (fail)
  generalize hw1 : (w.alloc _).alloc _ = w1
  rw [← hg]
  obtain ⟨b1, b2, hf⟩ := H_bx.out w1 hw1
  have k0 := row_cell b2 0
  have k1 := row_cell b2 1
  have k2 := row_cell b2 2
  simp at k0 k1 k2
  have H_b1 := Lib.hid b1; clear b1
  have H_b2 := Lib.hid b2; clear b2
  have H_hf := Lib.hid hf; clear hf
  have H_hw1 := Lib.hid hw1; clear hw1
  have H_hg := Lib.hid hg; clear hg
  go_wp2_with (fail)
  refine (H_hroom.out _ H_hf.out).mono ?_
  rintro e w2 ⟨rfl, f2⟩
  clear k0 k1 k2
  have H_f2 := Lib.hid f2; clear f2
  go_wp2_with (fail)
  go_ret
  exact ⟨rfl, fresh_trans H_hf.out H_f2.out⟩

set_option maxRecDepth 20000 in
set_option maxHeartbeats 4000000 in
theorem gvSmall_ok (neg : Bool) (c s ms : Nat) (xw : Value) (z : Int) (d : Nat) (w : World) (hx : SFr w xw z d) (hd : 0 < d) (hz : z.natAbs < spow 300) (hdd : d < spow 300) (hgd : Good z.natAbs d c s) (hms : ms ≤ s) (hcan : neg = true → 0 < c) (hsg : zfix neg c = sgnN z c) :
    Calls Tryz.prog 30 #[fx neg c s, .int .i64 0, xw, .int .i64 ms] w (VRet w (.bool true)) := by
  have hs19 := hgd.1
  obtain ⟨na, va, la, dv, dl, rfl, ha, hna, hca, hzz, hda, hdna, hdd0⟩ := hx
  have hx : SFr w (.agg #[.bool na, va, dv]) z d := ⟨na, va, la, dv, dl, rfl, ha, hna, hca, hzz, hda, hdna, hdd0⟩
  obtain ⟨aa, ca, rfl⟩ := ha.form
  obtain ⟨ad, cd, rfl⟩ := hda.form
  clear ha hna hca hda hdna hzz hdd0
  obtain ⟨g, hg⟩ : ∃ g, g = w.heap.size := ⟨_, rfl⟩
  have t1 : decide ((ms : Int) < 0) = false := by simp
  have t2 : decide (19 < (ms : Int)) = false := by simp; omega
  have hex := fun W (hW : Fresh w W) => gvExact_ok neg c s ms _ z d W (hx.fresh hW) hd hz hdd hgd hms hcan hsg
  have bx := boxes2 w #[.bool neg, .int .u64 c, .int .i64 s] #[.bool na, .slice aa la.length ca, .slice ad dl.length cd] 24 31 g hg
  clear hgd hd hz hdd hms hcan hsg hs19
  have H_bx := Lib.hid bx; clear bx
  have H_hex := Lib.hid hex; clear hex
  have H_hx := Lib.hid hx; clear hx
  go_enter Tryz.func30, Tryz.ntmps30
  go_wp2_with (fail)
  generalize hw1 : (w.alloc _).alloc _ = w1
  rw [← hg]
  obtain ⟨b1, b2, hf⟩ := H_bx.out w1 hw1
  have k0 := row_cell b2 0
  have k1 := row_cell b2 1
  have k2 := row_cell b2 2
  have k3 := row_cell b1 0
  have k4 := row_cell b1 1
  have k5 := row_cell b1 2
  simp at k0 k1 k2 k3 k4 k5
  have H_b1 := Lib.hid b1; clear b1
  have H_b2 := Lib.hid b2; clear b2
  have H_hf := Lib.hid hf; clear hf
  have H_hw1 := Lib.hid hw1; clear hw1
  have H_hg := Lib.hid hg; clear hg
  go_wp2_with (fail)
  refine (H_hex.out _ H_hf.out).mono ?_
  rintro e w2 ⟨rfl, f2⟩
  have H_f2 := Lib.hid f2; clear f2
  go_wp2_with (fail)
  go_ret
  exact ⟨rfl, fresh_trans H_hf.out H_f2.out⟩

set_option maxRecDepth 20000 in
set_option maxHeartbeats 4000000 in
theorem gvSmall_out (neg : Bool) (c : Nat) (s f ms : Int) (xw : Value) (z : Int) (d : Nat) (w : World) (hx : SFr w xw z d) (hms : ms < 0 ∨ 19 < ms) :
    Calls Tryz.prog 30 #[.agg #[.bool neg, .int .u64 c, .int .i64 s], .int .i64 f, xw, .int .i64 ms] w (VRet w (.bool true)) := by
  obtain ⟨na, va, la, dv, dl, rfl, ha, hna, hca, hzz, hda, hdna, hdd0⟩ := hx
  have hx : SFr w (.agg #[.bool na, va, dv]) z d := ⟨na, va, la, dv, dl, rfl, ha, hna, hca, hzz, hda, hdna, hdd0⟩
  obtain ⟨aa, ca, rfl⟩ := ha.form
  obtain ⟨ad, cd, rfl⟩ := hda.form
  clear ha hna hca hda hdna hzz hdd0
  obtain ⟨g, hg⟩ : ∃ g, g = w.heap.size := ⟨_, rfl⟩
  have bx := boxes2 w #[.bool neg, .int .u64 c, .int .i64 s] #[.bool na, .slice aa la.length ca, .slice ad dl.length cd] 24 31 g hg
  have H_bx := Lib.hid bx; clear bx
  have H_hx := Lib.hid hx; clear hx
  rcases hms with hms | hms
  · have t1 : decide (ms < 0) = true := by simp; omega
    go_enter Tryz.func30, Tryz.ntmps30
    go_wp2_with (fail)
    generalize hw1 : (w.alloc _).alloc _ = w1
    rw [← hg]
    obtain ⟨b1, b2, hf⟩ := H_bx.out w1 hw1
    have H_b1 := Lib.hid b1; clear b1
    have H_b2 := Lib.hid b2; clear b2
    have H_hf := Lib.hid hf; clear hf
    have H_hw1 := Lib.hid hw1; clear hw1
    have H_hg := Lib.hid hg; clear hg
    go_wp2_with (fail)
    go_ret
    exact ⟨rfl, H_hf.out⟩
  · have t0 : ¬ ms < 0 := by omega
    have t1 : decide (ms < 0) = false := by simp; omega
    have t2 : decide (19 < ms) = true := by simp; omega
    go_enter Tryz.func30, Tryz.ntmps30
    go_wp2_with (fail)
    generalize hw1 : (w.alloc _).alloc _ = w1
    rw [← hg]
    obtain ⟨b1, b2, hf⟩ := H_bx.out w1 hw1
    have H_b1 := Lib.hid b1; clear b1
    have H_b2 := Lib.hid b2; clear b2
    have H_hf := Lib.hid hf; clear hf
    have H_hw1 := Lib.hid hw1; clear hw1
    have H_hg := Lib.hid hg; clear hg
    go_wp2_with (fail)
    go_ret
    exact ⟨rfl, H_hf.out⟩

set_option maxRecDepth 20000 in
set_option maxHeartbeats 4000000 in
theorem gvSmall_not (neg : Bool) (c : Nat) (s : Int) (ms : Nat) (xw : Value) (z : Int) (d : Nat) (w : World) (hx : SFr w xw z d) (hms : ms ≤ 19) :
    Calls Tryz.prog 30 #[.agg #[.bool neg, .int .u64 c, .int .i64 s], .int .i64 1, xw, .int .i64 ms] w (VRet w (.bool true)) := by
  obtain ⟨na, va, la, dv, dl, rfl, ha, hna, hca, hzz, hda, hdna, hdd0⟩ := hx
  have hx : SFr w (.agg #[.bool na, va, dv]) z d := ⟨na, va, la, dv, dl, rfl, ha, hna, hca, hzz, hda, hdna, hdd0⟩
  obtain ⟨aa, ca, rfl⟩ := ha.form
  obtain ⟨ad, cd, rfl⟩ := hda.form
  clear ha hna hca hda hdna hzz hdd0
  obtain ⟨g, hg⟩ : ∃ g, g = w.heap.size := ⟨_, rfl⟩
  have t1 : decide ((ms : Int) < 0) = false := by simp
  have t2 : decide (19 < (ms : Int)) = false := by simp; omega
  have bx := boxes2 w #[.bool neg, .int .u64 c, .int .i64 s] #[.bool na, .slice aa la.length ca, .slice ad dl.length cd] 24 31 g hg
  have H_bx := Lib.hid bx; clear bx
  have H_hx := Lib.hid hx; clear hx
  go_enter Tryz.func30, Tryz.ntmps30
  go_wp2_with (fail)
  generalize hw1 : (w.alloc _).alloc _ = w1
  rw [← hg]
  obtain ⟨b1, b2, hf⟩ := H_bx.out w1 hw1
  have H_b1 := Lib.hid b1; clear b1
  have H_b2 := Lib.hid b2; clear b2
  have H_hf := Lib.hid hf; clear hf
  have H_hw1 := Lib.hid hw1; clear hw1
  have H_hg := Lib.hid hg; clear hg
  go_wp2_with (fail)
  go_ret
  exact ⟨rfl, H_hf.out⟩

set_option maxRecDepth 20000 in
set_option maxHeartbeats 4000000 in
theorem gvBig_ok (neg : Bool) (c s ms : Nat) (xw : Value) (z : Int) (d : Nat) (w : World) (hx : SFr w xw z d) (hd : 0 < d) (hz : z.natAbs < spow 300) (hdd : d < spow 300) (hgd : Good z.natAbs d c s) (hms : ms ≤ s) (hcan : neg = true → 0 < c) (hsg : zfix neg c = sgnN z c) :
    Calls Tryz.prog 28 #[fx neg c s, .int .i64 0, xw, .int .i64 ms] w (VRet w (.bool true)) := by
  have hs19 := hgd.1
  obtain ⟨na, va, la, dv, dl, rfl, ha, hna, hca, hzz, hda, hdna, hdd0⟩ := hx
  have hx : SFr w (.agg #[.bool na, va, dv]) z d := ⟨na, va, la, dv, dl, rfl, ha, hna, hca, hzz, hda, hdna, hdd0⟩
  obtain ⟨aa, ca, rfl⟩ := ha.form
  obtain ⟨ad, cd, rfl⟩ := hda.form
  clear ha hna hca hda hdna hzz hdd0
  obtain ⟨g, hg⟩ : ∃ g, g = w.heap.size := ⟨_, rfl⟩
  have t1 : decide ((ms : Int) < 0) = false := by simp
  have t2 : decide (19 < (ms : Int)) = false := by simp; omega
  have hex := fun W (hW : Fresh w W) => gvExact_ok neg c s ms _ z d W (hx.fresh hW) hd hz hdd hgd hms hcan hsg
  have bx := boxes2 w #[.bool neg, .int .u64 c, .int .i64 s] #[.bool na, .slice aa la.length ca, .slice ad dl.length cd] 24 31 g hg
  clear hgd hd hz hdd hms hcan hsg hs19
  have H_bx := Lib.hid bx; clear bx
  have H_hex := Lib.hid hex; clear hex
  have H_hx := Lib.hid hx; clear hx
  go_enter Tryz.func28, Tryz.ntmps28
  go_wp2_with (fail)
  generalize hw1 : (w.alloc _).alloc _ = w1
  rw [← hg]
  obtain ⟨b1, b2, hf⟩ := H_bx.out w1 hw1
  have k0 := row_cell b2 0
  have k1 := row_cell b2 1
  have k2 := row_cell b2 2
  have k3 := row_cell b1 0
  have k4 := row_cell b1 1
  have k5 := row_cell b1 2
  simp at k0 k1 k2 k3 k4 k5
  have H_b1 := Lib.hid b1; clear b1
  have H_b2 := Lib.hid b2; clear b2
  have H_hf := Lib.hid hf; clear hf
  have H_hw1 := Lib.hid hw1; clear hw1
  have H_hg := Lib.hid hg; clear hg
  go_wp2_with (fail)
  refine (H_hex.out _ H_hf.out).mono ?_
  rintro e w2 ⟨rfl, f2⟩
  have H_f2 := Lib.hid f2; clear f2
  go_wp2_with (fail)
  go_ret
  exact ⟨rfl, fresh_trans H_hf.out H_f2.out⟩

set_option maxRecDepth 20000 in
set_option maxHeartbeats 4000000 in
theorem gvBig_err (neg : Bool) (c ms : Nat) (s : Int) (xw : Value) (z : Int) (d : Nat) (w : World) (hx : SFr w xw z d) (hd : 0 < d) (hz : z.natAbs < spow 300) (hdd : d < spow 300) (hms : ms ≤ 19) (hno : ¬ okN z.natAbs d ms) :
    Calls Tryz.prog 28 #[.agg #[.bool neg, .int .u64 c, .int .i64 s], .int .i64 1, xw, .int .i64 ms] w (VRet w (.bool true)) := by
  obtain ⟨na, va, la, dv, dl, rfl, ha, hna, hca, hzz, hda, hdna, hdd0⟩ := hx
  have hx : SFr w (.agg #[.bool na, va, dv]) z d := ⟨na, va, la, dv, dl, rfl, ha, hna, hca, hzz, hda, hdna, hdd0⟩
  obtain ⟨aa, ca, rfl⟩ := ha.form
  obtain ⟨ad, cd, rfl⟩ := hda.form
  clear ha hna hca hda hdna hzz hdd0
  obtain ⟨g, hg⟩ : ∃ g, g = w.heap.size := ⟨_, rfl⟩
  have t1 : decide ((ms : Int) < 0) = false := by simp
  have t2 : decide (19 < (ms : Int)) = false := by simp; omega
  have hex := fun W (hW : Fresh w W) => gvExact_err neg c ms s _ z d W (hx.fresh hW) hd hz hdd hms hno
  have bx := boxes2 w #[.bool neg, .int .u64 c, .int .i64 s] #[.bool na, .slice aa la.length ca, .slice ad dl.length cd] 24 31 g hg
  clear hd hz hdd hms hno
  have H_bx := Lib.hid bx; clear bx
  have H_hex := Lib.hid hex; clear hex
  have H_hx := Lib.hid hx; clear hx
  go_enter Tryz.func28, Tryz.ntmps28
  go_wp2_with (fail)
  generalize hw1 : (w.alloc _).alloc _ = w1
  rw [← hg]
  obtain ⟨b1, b2, hf⟩ := H_bx.out w1 hw1
  have k0 := row_cell b2 0
  have k1 := row_cell b2 1
  have k2 := row_cell b2 2
  have k3 := row_cell b1 0
  have k4 := row_cell b1 1
  have k5 := row_cell b1 2
  simp at k0 k1 k2 k3 k4 k5
  have H_b1 := Lib.hid b1; clear b1
  have H_b2 := Lib.hid b2; clear b2
  have H_hf := Lib.hid hf; clear hf
  have H_hw1 := Lib.hid hw1; clear hw1
  have H_hg := Lib.hid hg; clear hg
  go_wp2_with (fail)
  refine (H_hex.out _ H_hf.out).mono ?_
  rintro e w2 ⟨rfl, f2⟩
  have H_f2 := Lib.hid f2; clear f2
  go_wp2_with (fail)
  go_ret
  exact ⟨rfl, fresh_trans H_hf.out H_f2.out⟩

set_option maxRecDepth 20000 in
set_option maxHeartbeats 4000000 in
theorem gvBig_out (neg : Bool) (c : Nat) (s f ms : Int) (xw : Value) (z : Int) (d : Nat) (w : World) (hx : SFr w xw z d) (hms : ms < 0 ∨ 19 < ms) :
    Calls Tryz.prog 28 #[.agg #[.bool neg, .int .u64 c, .int .i64 s], .int .i64 f, xw, .int .i64 ms] w (VRet w (.bool true)) := by
  obtain ⟨na, va, la, dv, dl, rfl, ha, hna, hca, hzz, hda, hdna, hdd0⟩ := hx
  have hx : SFr w (.agg #[.bool na, va, dv]) z d := ⟨na, va, la, dv, dl, rfl, ha, hna, hca, hzz, hda, hdna, hdd0⟩
  obtain ⟨aa, ca, rfl⟩ := ha.form
  obtain ⟨ad, cd, rfl⟩ := hda.form
  clear ha hna hca hda hdna hzz hdd0
  obtain ⟨g, hg⟩ : ∃ g, g = w.heap.size := ⟨_, rfl⟩
  have bx := boxes2 w #[.bool neg, .int .u64 c, .int .i64 s] #[.bool na, .slice aa la.length ca, .slice ad dl.length cd] 24 31 g hg
  have H_bx := Lib.hid bx; clear bx
  have H_hx := Lib.hid hx; clear hx
  rcases hms with hms | hms
  · have t1 : decide (ms < 0) = true := by simp; omega
    go_enter Tryz.func28, Tryz.ntmps28
    go_wp2_with (fail)
    generalize hw1 : (w.alloc _).alloc _ = w1
    rw [← hg]
    obtain ⟨b1, b2, hf⟩ := H_bx.out w1 hw1
    have H_b1 := Lib.hid b1; clear b1
    have H_b2 := Lib.hid b2; clear b2
    have H_hf := Lib.hid hf; clear hf
    have H_hw1 := Lib.hid hw1; clear hw1
    have H_hg := Lib.hid hg; clear hg
    go_wp2_with (fail)
    go_ret
    exact ⟨rfl, H_hf.out⟩
  · have t0 : ¬ ms < 0 := by omega
    have t1 : decide (ms < 0) = false := by simp; omega
    have t2 : decide (19 < ms) = true := by simp; omega
    go_enter Tryz.func28, Tryz.ntmps28
    go_wp2_with (fail)
    generalize hw1 : (w.alloc _).alloc _ = w1
    rw [← hg]
    obtain ⟨b1, b2, hf⟩ := H_bx.out w1 hw1
    have H_b1 := Lib.hid b1; clear b1
    have H_b2 := Lib.hid b2; clear b2
    have H_hf := Lib.hid hf; clear hf
    have H_hw1 := Lib.hid hw1; clear hw1
    have H_hg := Lib.hid hg; clear hg
    go_wp2_with (fail)
    go_ret
    exact ⟨rfl, H_hf.out⟩

end Go.Proofs.YtibaeafmgncjdaaGreatDoor
