/- shopspring: rescale to any exponent that is at most 255 away. Printed by gen_rsw.py. -/
import Derived.Test.YtllencgncinphaaGreatDoorKC9
import Derived.Test.YtllencgncinphaaGreatDoorKC19
import Derived.Test.YtllencgncinphaaGreatDoorKC38
import Derived.Test.YtllencgncinphaaGreatDoorKC39
namespace Go.Proofs.YtllencgncinphaaGreatDoor
open Go.RowKit
open Go.Lib (hid)



end Go.Proofs.YtllencgncinphaaGreatDoor
