/- A closed fact that the card of FnFixQuo asks. -/
import Derived.Test.YtmgidnjpkbgmgabGreatDoorK6
import Derived.Test.YtmgidnjpkbgmgabGreatDoorTie
import Derived.Test.YtmgidnjpkbgmgabGreatDoorCards
import Derived.SevenTiedAt
namespace Go.Proofs.YtmgidnjpkbgmgabGreatDoor
open Go Go.ChangeShapes Go.WideShapes Go.ChangeAt Go.RowKit Go.Lib Go.Joins

theorem fnFixQuo_goes : false = Rows.fnFixQuoRow.goesBy Tryz.pinned.checked.prog := by kernel_rfl

end Go.Proofs.YtmgidnjpkbgmgabGreatDoor
