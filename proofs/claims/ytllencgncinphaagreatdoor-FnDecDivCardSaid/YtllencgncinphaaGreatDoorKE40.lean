/- shopspring: rescale to any exponent that is at most 255 away. Printed by gen_rsw.py. -/
import Derived.Test.YtllencgncinphaaGreatDoorKE9
import Derived.Test.YtllencgncinphaaGreatDoorKE19
import Derived.Test.YtllencgncinphaaGreatDoorKE38
import Derived.Test.YtllencgncinphaaGreatDoorKE39
namespace Go.Proofs.YtllencgncinphaaGreatDoor
open Go.RowKit
open Go.Lib (hid)



end Go.Proofs.YtllencgncinphaaGreatDoor
