/- A closed fact that the card of FnDecFloor asks. -/
import Derived.Test.YtllencgncinphaaGreatDoorKF7
import Derived.Test.YtllencgncinphaaGreatDoorTie
import Derived.Test.YtllencgncinphaaGreatDoorCards
import Derived.SevenTiedAt
namespace Go.Proofs.YtllencgncinphaaGreatDoor
open Go Go.ChangeShapes Go.WideShapes Go.ChangeAt Go.RowKit Go.Lib Go.Joins

theorem fnDecFloor_goes : false = Rows.fnDecFloorRow.goesBy Tryz.pinned.checked.prog := by kernel_rfl

end Go.Proofs.YtllencgncinphaaGreatDoor
