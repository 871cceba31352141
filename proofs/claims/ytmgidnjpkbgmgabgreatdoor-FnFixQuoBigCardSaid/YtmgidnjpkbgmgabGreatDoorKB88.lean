/- govalues.Decimal.addMulFint. -/
import Derived.Deep.CutBlock
import Derived.Test.YtmgidnjpkbgmgabGreatDoorKB5
import Derived.Test.YtmgidnjpkbgmgabGreatDoorKB16
import Derived.Test.YtmgidnjpkbgmgabGreatDoorKB17
import Derived.Test.YtmgidnjpkbgmgabGreatDoorKB44
namespace Go.Proofs.YtmgidnjpkbgmgabGreatDoor
open Go.RowKit

end Go.Proofs.YtmgidnjpkbgmgabGreatDoor
