/- govalues' whole numbers of 64 bits: add, subAbs, isOdd, rshHalfEven. -/
import Derived.WalkSmall
import Derived.Test.YtmgidnjpkbgmgabGreatDoorKB12
namespace Go.Proofs.YtmgidnjpkbgmgabGreatDoor
open Go.RowKit

end Go.Proofs.YtmgidnjpkbgmgabGreatDoor
