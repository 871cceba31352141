/- The contracts of math/big's integers: Add, Sub. -/
import Derived.Test.YtllencgncinphaaGreatDoorKB9
import Derived.Test.YtllencgncinphaaGreatDoorKB29
namespace Go.Proofs.YtllencgncinphaaGreatDoor
open Go.RowKit
open Go.Lib (hid)

theorem NatOp.of_drew {w : World} {zv rv : Value} {l : List Nat} {w' : World} (h : NatOp w.drew zv rv l w') : NatOp w zv rv l w' := ⟨h.nat, h.keep.of_drew, h.own⟩

end Go.Proofs.YtllencgncinphaaGreatDoor
