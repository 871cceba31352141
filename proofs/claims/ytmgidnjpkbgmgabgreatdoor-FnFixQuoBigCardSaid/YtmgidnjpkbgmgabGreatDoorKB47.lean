/- The contracts of the laws' words gvExact, gvBig, gvSmall. -/
import Derived.Test.YtmgidnjpkbgmgabGreatDoorKB18
namespace Go.Proofs.YtmgidnjpkbgmgabGreatDoor
open Go.RowKit

set_option maxRecDepth 20000 in
set_option maxHeartbeats 4000000 in
theorem gvExact_ok (neg : Bool) (c s ms : Nat) (xw : Value) (z : Int) (d : Nat) (w : World) (hx : SFr w xw z d) (hd : 0 < d) (hz : z.natAbs < spow 300) (hdd : d < spow 300) (hgd : Good z.natAbs d c s) (hms : ms ≤ s) (hcan : neg = true → 0 < c) (hsg : zfix neg c = sgnN z c) :
    Calls Tryz.prog 56 #[fx neg c s, .int .i64 0, xw, .int .i64 ms] w (VRet w (.bool true)) := by
  obtain ⟨na, va, la, dv, dl, rfl, ha, hna, hca, hzz, hda, hdna, hdd0⟩ := hx
  have hx : SFr w (.agg #[.bool na, va, dv]) z d := ⟨na, va, la, dv, dl, rfl, ha, hna, hca, hzz, hda, hdna, hdd0⟩
  obtain ⟨aa, ca, rfl⟩ := ha.form
  obtain ⟨ad, cd, rfl⟩ := hda.form
  clear ha hna hca hda hdna hzz hdd0
  obtain ⟨g, hg⟩ : ∃ g, g = w.heap.size := ⟨_, rfl⟩
  obtain ⟨r, hr⟩ := room_ex z.natAbs d
  have hsr : (s : Int) ≤ r := by
    obtain ⟨t, ht, hst, _⟩ := good_top hd hgd
    rcases hr with ⟨t', rfl, h⟩ | ⟨_, h⟩
    · have := top_unique hd ht h
      omega
    · exact absurd (okN_anti hd (Nat.zero_le t) ht.2.1) h
  have hs19 := hgd.1
  have hroom := fun W (hW : Fresh w W) => Room_any _ z d r W (hx.fresh hW) hd hz hdd hr
  have hnear := fun W (hW : Fresh w W) => gvNear_ok neg c s _ z d W (hx.fresh hW) hd hz hdd hgd hcan hsg
  have t1 : decide ((ms : Int) < 0) = false := by simp
  have t2 : decide (19 < (ms : Int)) = false := by simp; omega
  have t3 : decide (r < (ms : Int)) = false := by simp; omega
  have t3n : ¬ r < (ms : Int) := by omega
  have t4 : decide ((ms : Int) ≤ (s : Int)) = true := by simp; omega
  have bx := boxes2 w #[.bool neg, .int .u64 c, .int .i64 s] #[.bool na, .slice aa la.length ca, .slice ad dl.length cd] 24 39 g hg
  clear hgd hr hsr hd hz hdd
  have H_bx := Lib.hid bx; clear bx
  have H_hroom := Lib.hid hroom; clear hroom
  have H_hnear := Lib.hid hnear; clear hnear
  have H_hx := Lib.hid hx; clear hx
  have H_hcan := Lib.hid hcan; clear hcan
  have H_hsg := Lib.hid hsg; clear hsg
  go_enter Tryz.func56, Tryz.ntmps56
  go_wp2_with (fail)
  generalize hw1 : (w.alloc _).alloc _ = w1
  rw [← hg]
  obtain ⟨b1, b2, hf⟩ := H_bx.out w1 hw1
  have k0 := row_cell b2 0
  have k1 := row_cell b2 1
  have k2 := row_cell b2 2
  simp at k0 k1 k2
  have H_b1 := Lib.hid b1; clear b1
  have H_b2 := Lib.hid b2; clear b2
  have H_hf := Lib.hid hf; clear hf
  have H_hw1 := Lib.hid hw1; clear hw1
  have H_hg := Lib.hid hg; clear hg
  go_wp2_with (fail)
  refine (H_hroom.out _ H_hf.out).mono ?_
  rintro e w2 ⟨rfl, f2⟩
  have b1 := row_fresh H_b1.out f2
  have b2 := row_fresh H_b2.out f2
  have f2 := fresh_trans H_hf.out f2
  clear k0 k1 k2 H_b1 H_b2
  have k0 := row_cell b2 0
  have k1 := row_cell b2 1
  have k2 := row_cell b2 2
  have k3 := row_cell b1 0
  have k4 := row_cell b1 1
  have k5 := row_cell b1 2
  simp at k0 k1 k2 k3 k4 k5
  have H_b1 := Lib.hid b1; clear b1
  have H_b2 := Lib.hid b2; clear b2
  have H_f2 := Lib.hid f2; clear f2
  go_wp2_with (fail)
  refine (H_hnear.out _ H_f2.out).mono ?_
  rintro e w3 ⟨rfl, f3⟩
  have H_f3 := Lib.hid f3; clear f3
  go_wp2_with (fail)
  go_ret
  exact ⟨rfl, fresh_trans H_f2.out H_f3.out⟩

set_option maxRecDepth 20000 in
set_option maxHeartbeats 4000000 in
theorem gvExact_err (neg : Bool) (c ms : Nat) (s : Int) (xw : Value) (z : Int) (d : Nat) (w : World) (hx : SFr w xw z d) (hd : 0 < d) (hz : z.natAbs < spow 300) (hdd : d < spow 300) (hms : ms ≤ 19) (hno : ¬ okN z.natAbs d ms) :
    Calls Tryz.prog 56 #[.agg #[.bool neg, .int .u64 c, .int .i64 s], .int .i64 1, xw, .int .i64 ms] w (VRet w (.bool true)) := by
  obtain ⟨na, va, la, dv, dl, rfl, ha, hna, hca, hzz, hda, hdna, hdd0⟩ := hx
  have hx : SFr w (.agg #[.bool na, va, dv]) z d := ⟨na, va, la, dv, dl, rfl, ha, hna, hca, hzz, hda, hdna, hdd0⟩
  obtain ⟨aa, ca, rfl⟩ := ha.form
  obtain ⟨ad, cd, rfl⟩ := hda.form
  clear ha hna hca hda hdna hzz hdd0
  obtain ⟨g, hg⟩ : ∃ g, g = w.heap.size := ⟨_, rfl⟩
  obtain ⟨r, hr⟩ := room_ex z.natAbs d
  have hsr : r < (ms : Int) := by
    rcases hr with ⟨t', rfl, h⟩ | ⟨h, _⟩
    · rcases Nat.lt_or_ge t' ms with h1 | h1
      · omega
      · exact absurd (okN_anti hd h1 h.2.1) hno
    · omega
  have hroom := fun W (hW : Fresh w W) => Room_any _ z d r W (hx.fresh hW) hd hz hdd hr
  have t1 : decide ((ms : Int) < 0) = false := by simp
  have t2 : decide (19 < (ms : Int)) = false := by simp; omega
  have t3 : decide (r < (ms : Int)) = true := by simp; omega
  have bx := boxes2 w #[.bool neg, .int .u64 c, .int .i64 s] #[.bool na, .slice aa la.length ca, .slice ad dl.length cd] 24 39 g hg
  clear hr hd hz hdd hno
  have H_bx := Lib.hid bx; clear bx
  have H_hroom := Lib.hid hroom; clear hroom
  have H_hx := Lib.hid hx; clear hx
  go_enter Tryz.func56, Tryz.ntmps56
  go_wp2_with (fail)
  generalize hw1 : (w.alloc _).alloc _ = w1
  rw [← hg]
  obtain ⟨b1, b2, hf⟩ := H_bx.out w1 hw1
  have k0 := row_cell b2 0
  have k1 := row_cell b2 1
  have k2 := row_cell b2 2
  simp at k0 k1 k2
  have H_b1 := Lib.hid b1; clear b1
  have H_b2 := Lib.hid b2; clear b2
  have H_hf := Lib.hid hf; clear hf
  have H_hw1 := Lib.hid hw1; clear hw1
  have H_hg := Lib.hid hg; clear hg
  go_wp2_with (fail)
  refine (H_hroom.out _ H_hf.out).mono ?_
  rintro e w2 ⟨rfl, f2⟩
  clear k0 k1 k2
  have H_f2 := Lib.hid f2; clear f2
  go_wp2_with (fail)
  go_ret
  exact ⟨rfl, fresh_trans H_hf.out H_f2.out⟩

set_option maxRecDepth 20000 in
set_option maxHeartbeats 4000000 in
theorem gvBig_ok (neg : Bool) (c s ms : Nat) (xw : Value) (z : Int) (d : Nat) (w : World) (hx : SFr w xw z d) (hd : 0 < d) (hz : z.natAbs < spow 300) (hdd : d < spow 300) (hgd : Good z.natAbs d c s) (hms : ms ≤ s) (hcan : neg = true → 0 < c) (hsg : zfix neg c = sgnN z c) :
    Calls Tryz.prog 24 #[fx neg c s, .int .i64 0, xw, .int .i64 ms] w (VRet w (.bool true)) := by
  have hs19 := hgd.1
  obtain ⟨na, va, la, dv, dl, rfl, ha, hna, hca, hzz, hda, hdna, hdd0⟩ := hx
  have hx : SFr w (.agg #[.bool na, va, dv]) z d := ⟨na, va, la, dv, dl, rfl, ha, hna, hca, hzz, hda, hdna, hdd0⟩
  obtain ⟨aa, ca, rfl⟩ := ha.form
  obtain ⟨ad, cd, rfl⟩ := hda.form
  clear ha hna hca hda hdna hzz hdd0
  obtain ⟨g, hg⟩ : ∃ g, g = w.heap.size := ⟨_, rfl⟩
  have t1 : decide ((ms : Int) < 0) = false := by simp
  have t2 : decide (19 < (ms : Int)) = false := by simp; omega
  have hex := fun W (hW : Fresh w W) => gvExact_ok neg c s ms _ z d W (hx.fresh hW) hd hz hdd hgd hms hcan hsg
  have bx := boxes2 w #[.bool neg, .int .u64 c, .int .i64 s] #[.bool na, .slice aa la.length ca, .slice ad dl.length cd] 24 39 g hg
  clear hgd hd hz hdd hms hcan hsg hs19
  have H_bx := Lib.hid bx; clear bx
  have H_hex := Lib.hid hex; clear hex
  have H_hx := Lib.hid hx; clear hx
  go_enter Tryz.func24, Tryz.ntmps24
  go_wp2_with (fail)
  generalize hw1 : (w.alloc _).alloc _ = w1
  rw [← hg]
  obtain ⟨b1, b2, hf⟩ := H_bx.out w1 hw1
  have k0 := row_cell b2 0
  have k1 := row_cell b2 1
  have k2 := row_cell b2 2
  have k3 := row_cell b1 0
  have k4 := row_cell b1 1
  have k5 := row_cell b1 2
  simp at k0 k1 k2 k3 k4 k5
  have H_b1 := Lib.hid b1; clear b1
  have H_b2 := Lib.hid b2; clear b2
  have H_hf := Lib.hid hf; clear hf
  have H_hw1 := Lib.hid hw1; clear hw1
  have H_hg := Lib.hid hg; clear hg
  go_wp2_with (fail)
  refine (H_hex.out _ H_hf.out).mono ?_
  rintro e w2 ⟨rfl, f2⟩
  have H_f2 := Lib.hid f2; clear f2
  go_wp2_with (fail)
  go_ret
  exact ⟨rfl, fresh_trans H_hf.out H_f2.out⟩

set_option maxRecDepth 20000 in
set_option maxHeartbeats 4000000 in
theorem gvBig_err (neg : Bool) (c ms : Nat) (s : Int) (xw : Value) (z : Int) (d : Nat) (w : World) (hx : SFr w xw z d) (hd : 0 < d) (hz : z.natAbs < spow 300) (hdd : d < spow 300) (hms : ms ≤ 19) (hno : ¬ okN z.natAbs d ms) :
    Calls Tryz.prog 24 #[.agg #[.bool neg, .int .u64 c, .int .i64 s], .int .i64 1, xw, .int .i64 ms] w (VRet w (.bool true)) := by
  obtain ⟨na, va, la, dv, dl, rfl, ha, hna, hca, hzz, hda, hdna, hdd0⟩ := hx
  have hx : SFr w (.agg #[.bool na, va, dv]) z d := ⟨na, va, la, dv, dl, rfl, ha, hna, hca, hzz, hda, hdna, hdd0⟩
  obtain ⟨aa, ca, rfl⟩ := ha.form
  obtain ⟨ad, cd, rfl⟩ := hda.form
  clear ha hna hca hda hdna hzz hdd0
  obtain ⟨g, hg⟩ : ∃ g, g = w.heap.size := ⟨_, rfl⟩
  have t1 : decide ((ms : Int) < 0) = false := by simp
  have t2 : decide (19 < (ms : Int)) = false := by simp; omega
  have hex := fun W (hW : Fresh w W) => gvExact_err neg c ms s _ z d W (hx.fresh hW) hd hz hdd hms hno
  have bx := boxes2 w #[.bool neg, .int .u64 c, .int .i64 s] #[.bool na, .slice aa la.length ca, .slice ad dl.length cd] 24 39 g hg
  clear hd hz hdd hms hno
  have H_bx := Lib.hid bx; clear bx
  have H_hex := Lib.hid hex; clear hex
  have H_hx := Lib.hid hx; clear hx
  go_enter Tryz.func24, Tryz.ntmps24
  go_wp2_with (fail)
  generalize hw1 : (w.alloc _).alloc _ = w1
  rw [← hg]
  obtain ⟨b1, b2, hf⟩ := H_bx.out w1 hw1
  have k0 := row_cell b2 0
  have k1 := row_cell b2 1
  have k2 := row_cell b2 2
  have k3 := row_cell b1 0
  have k4 := row_cell b1 1
  have k5 := row_cell b1 2
  simp at k0 k1 k2 k3 k4 k5
  have H_b1 := Lib.hid b1; clear b1
  have H_b2 := Lib.hid b2; clear b2
  have H_hf := Lib.hid hf; clear hf
  have H_hw1 := Lib.hid hw1; clear hw1
  have H_hg := Lib.hid hg; clear hg
  go_wp2_with (fail)
  refine (H_hex.out _ H_hf.out).mono ?_
  rintro e w2 ⟨rfl, f2⟩
  have H_f2 := Lib.hid f2; clear f2
  go_wp2_with (fail)
  go_ret
  exact ⟨rfl, fresh_trans H_hf.out H_f2.out⟩

set_option maxRecDepth 20000 in
set_option maxHeartbeats 4000000 in
theorem gvBig_out (neg : Bool) (c : Nat) (s f ms : Int) (xw : Value) (z : Int) (d : Nat) (w : World) (hx : SFr w xw z d) (hms : ms < 0 ∨ 19 < ms) :
    Calls Tryz.prog 24 #[.agg #[.bool neg, .int .u64 c, .int .i64 s], .int .i64 f, xw, .int .i64 ms] w (VRet w (.bool true)) := by
  obtain ⟨na, va, la, dv, dl, rfl, ha, hna, hca, hzz, hda, hdna, hdd0⟩ := hx
  have hx : SFr w (.agg #[.bool na, va, dv]) z d := ⟨na, va, la, dv, dl, rfl, ha, hna, hca, hzz, hda, hdna, hdd0⟩
  obtain ⟨aa, ca, rfl⟩ := ha.form
  obtain ⟨ad, cd, rfl⟩ := hda.form
  clear ha hna hca hda hdna hzz hdd0
  obtain ⟨g, hg⟩ : ∃ g, g = w.heap.size := ⟨_, rfl⟩
  have bx := boxes2 w #[.bool neg, .int .u64 c, .int .i64 s] #[.bool na, .slice aa la.length ca, .slice ad dl.length cd] 24 39 g hg
  have H_bx := Lib.hid bx; clear bx
  have H_hx := Lib.hid hx; clear hx
  rcases hms with hms | hms
  · have t1 : decide (ms < 0) = true := by simp; omega
    go_enter Tryz.func24, Tryz.ntmps24
    go_wp2_with (fail)
    generalize hw1 : (w.alloc _).alloc _ = w1
    rw [← hg]
    obtain ⟨b1, b2, hf⟩ := H_bx.out w1 hw1
    have H_b1 := Lib.hid b1; clear b1
    have H_b2 := Lib.hid b2; clear b2
    have H_hf := Lib.hid hf; clear hf
    have H_hw1 := Lib.hid hw1; clear hw1
    have H_hg := Lib.hid hg; clear hg
    go_wp2_with (fail)
    go_ret
    exact ⟨rfl, H_hf.out⟩
  · have t0 : ¬ ms < 0 := by omega
    have t1 : decide (ms < 0) = false := by simp; omega
    have t2 : decide (19 < ms) = true := by simp; omega
    go_enter Tryz.func24, Tryz.ntmps24
    go_wp2_with (fail)
    generalize hw1 : (w.alloc _).alloc _ = w1
    rw [← hg]
    obtain ⟨b1, b2, hf⟩ := H_bx.out w1 hw1
    have H_b1 := Lib.hid b1; clear b1
    have H_b2 := Lib.hid b2; clear b2
    have H_hf := Lib.hid hf; clear hf
    have H_hw1 := Lib.hid hw1; clear hw1
    have H_hg := Lib.hid hg; clear hg
    go_wp2_with (fail)
    go_ret
    exact ⟨rfl, H_hf.out⟩

end Go.Proofs.YtmgidnjpkbgmgabGreatDoor
