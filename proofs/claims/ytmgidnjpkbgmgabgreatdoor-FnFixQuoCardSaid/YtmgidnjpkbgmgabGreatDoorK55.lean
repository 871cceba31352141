/- A block that is. -/
import Derived.Test.YtmgidnjpkbgmgabGreatDoorK5
import Derived.Test.YtmgidnjpkbgmgabGreatDoorK17
namespace Go.Proofs.YtmgidnjpkbgmgabGreatDoor
open Go.RowKit

theorem row_lt3 {w : World} {g : Nat} {o : Obj} (h : w.heap[g]? = some o) : g < w.heap.size := by
  rcases Nat.lt_or_ge g w.heap.size with hlt | hge
  · exact hlt
  · rw [Array.getElem?_eq_none hge] at h; cases h

end Go.Proofs.YtmgidnjpkbgmgabGreatDoor
