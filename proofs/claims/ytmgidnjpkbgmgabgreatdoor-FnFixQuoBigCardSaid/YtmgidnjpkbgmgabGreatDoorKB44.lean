/- govalues: newFromFint. -/
import Derived.Test.YtmgidnjpkbgmgabGreatDoorKB15
import Derived.Test.YtmgidnjpkbgmgabGreatDoorKB17
namespace Go.Proofs.YtmgidnjpkbgmgabGreatDoor
open Go.RowKit

theorem ErrIs.lt {w : World} {a : Addr} (h : w.cell? ⟨1, 0, none⟩ = some (.iface 121 (.pointer (some a)))) : 1 < w.heap.size := World.block_lt_of_cell? _ _ h

end Go.Proofs.YtmgidnjpkbgmgabGreatDoor

/- newFromFint: a result, or a fault. -/
namespace Go.Proofs.YtmgidnjpkbgmgabGreatDoor
open Go.RowKit

end Go.Proofs.YtmgidnjpkbgmgabGreatDoor
