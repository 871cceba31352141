/- shopspring: rescale to any exponent that is at most 255 away. Printed by gen_rsw.py. -/
import Derived.Test.YtllencgncinphaaGreatDoorKB9
import Derived.Test.YtllencgncinphaaGreatDoorKB19
import Derived.Test.YtllencgncinphaaGreatDoorKB38
import Derived.Test.YtllencgncinphaaGreatDoorKB39
namespace Go.Proofs.YtllencgncinphaaGreatDoor
open Go.RowKit
open Go.Lib (hid)



end Go.Proofs.YtllencgncinphaaGreatDoor
