/- shopspring: QuoRem, Mod and DivRound of two decimals; small integers. Printed by gen_dr.py. -/
import Derived.Test.YtllencgncinphaaGreatDoorKF19
import Derived.Test.YtllencgncinphaaGreatDoorKF41
import Derived.Test.YtllencgncinphaaGreatDoorKF42
import Derived.Test.YtllencgncinphaaGreatDoorKF44
namespace Go.Proofs.YtllencgncinphaaGreatDoor
open Go.RowKit
open Go.Lib (hid)

theorem oneInt_any (w : World) (hNG : NG ≤ w.heap.size) : Calls Tryz.prog 115 #[] w (ZNew w 1) := by
 have hc := NewInt_pos 1 w (by omega) (by omega) hNG
 have H_hc := hid hc; clear hc
 go_enter Tryz.func115, Tryz.ntmps115
 go_wp2_with (fail)
 refine H_hc.out.mono ?_
 rintro e w2 ⟨b, v, rfl, h1, h2, h3, h4⟩
 have H_h1 := hid h1; have H_h2 := hid h2; have H_h3 := hid h3; have H_h4 := hid h4; clear h1 h2 h3 h4
 go_wp2_with (fail)
 go_ret
 exact ⟨b, v, rfl, H_h1.out, H_h2.out, H_h3.out, H_h4.out⟩

end Go.Proofs.YtllencgncinphaaGreatDoor
