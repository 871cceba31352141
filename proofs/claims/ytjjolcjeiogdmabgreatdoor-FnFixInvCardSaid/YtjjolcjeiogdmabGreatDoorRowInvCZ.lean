/- A closed fact that the card of FnFixInv asks. -/
import Derived.Test.YtjjolcjeiogdmabGreatDoorK3
import Derived.Test.YtjjolcjeiogdmabGreatDoorTie
import Derived.Test.YtjjolcjeiogdmabGreatDoorCards
import Derived.SevenTiedAt
namespace Go.Proofs.YtjjolcjeiogdmabGreatDoor
open Go Go.ChangeShapes Go.WideShapes Go.ChangeAt Go.RowKit Go.Lib Go.Joins

theorem fnFixInv_goes : false = Rows.fnFixInvRow.goesBy Tryz.pinned.checked.prog := by kernel_rfl

end Go.Proofs.YtjjolcjeiogdmabGreatDoor
