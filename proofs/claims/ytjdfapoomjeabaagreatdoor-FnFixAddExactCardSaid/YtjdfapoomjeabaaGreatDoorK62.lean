/- The contract of the laws' word gvExact, for places that there may not be. -/
import Derived.Test.YtjdfapoomjeabaaGreatDoorK47
namespace Go.Proofs.YtjdfapoomjeabaaGreatDoor
open Go.RowKit

set_option maxRecDepth 20000 in
set_option maxHeartbeats 4000000 in
theorem gvExact_out (neg : Bool) (c : Nat) (s ms : Int) (xw : Value) (z : Int) (d : Nat) (w : World) (hx : SFr w xw z d) (hms : ms < 0 ∨ 19 < ms) :
    Calls Tryz.prog 25 #[.agg #[.bool neg, .int .u64 c, .int .i64 s], .int .i64 1, xw, .int .i64 ms] w (VRet w (.bool true)) := by
  obtain ⟨na, va, la, dv, dl, rfl, ha, hna, hca, hzz, hda, hdna, hdd0⟩ := hx
  obtain ⟨aa, ca, rfl⟩ := ha.form
  obtain ⟨ad, cd, rfl⟩ := hda.form
  clear ha hna hca hda hdna hzz hdd0
  obtain ⟨g, hg⟩ : ∃ g, g = w.heap.size := ⟨_, rfl⟩
  have bx := boxes2 w #[.bool neg, .int .u64 c, .int .i64 s] #[.bool na, .slice aa la.length ca, .slice ad dl.length cd] 24 34 g hg
  have H_bx := Lib.hid bx; clear bx
  rcases hms with hms | hms
  · have t1 : decide (ms < 0) = true := by simp; omega
    go_enter Tryz.func25, Tryz.ntmps25
    go_wp2_with (fail)
    generalize hw1 : (w.alloc _).alloc _ = w1
    rw [← hg]
    obtain ⟨b1, b2, hf⟩ := H_bx.out w1 hw1
    have H_b1 := Lib.hid b1; clear b1
    have H_b2 := Lib.hid b2; clear b2
    have H_hf := Lib.hid hf; clear hf
    have H_hw1 := Lib.hid hw1; clear hw1
    have H_hg := Lib.hid hg; clear hg
    go_wp2_with (fail)
    go_ret
    exact ⟨rfl, H_hf.out⟩
  · have t0 : ¬ ms < 0 := by omega
    have t1 : decide (ms < 0) = false := by simp; omega
    have t2 : decide (19 < ms) = true := by simp; omega
    go_enter Tryz.func25, Tryz.ntmps25
    go_wp2_with (fail)
    generalize hw1 : (w.alloc _).alloc _ = w1
    rw [← hg]
    obtain ⟨b1, b2, hf⟩ := H_bx.out w1 hw1
    have H_b1 := Lib.hid b1; clear b1
    have H_b2 := Lib.hid b2; clear b2
    have H_hf := Lib.hid hf; clear hf
    have H_hw1 := Lib.hid hw1; clear hw1
    have H_hg := Lib.hid hg; clear hg
    go_wp2_with (fail)
    go_ret
    exact ⟨rfl, H_hf.out⟩

end Go.Proofs.YtjdfapoomjeabaaGreatDoor
