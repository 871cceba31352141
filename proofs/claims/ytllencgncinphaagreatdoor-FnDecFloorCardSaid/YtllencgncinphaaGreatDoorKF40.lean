/- shopspring: rescale to any exponent that is at most 255 away. Printed by gen_rsw.py. -/
import Derived.Test.YtllencgncinphaaGreatDoorKF9
import Derived.Test.YtllencgncinphaaGreatDoorKF19
import Derived.Test.YtllencgncinphaaGreatDoorKF38
import Derived.Test.YtllencgncinphaaGreatDoorKF39
namespace Go.Proofs.YtllencgncinphaaGreatDoor
open Go.RowKit
open Go.Lib (hid)



end Go.Proofs.YtllencgncinphaaGreatDoor
