/- A closed fact that the card of FnDecDiv asks. -/
import Derived.Test.YtllencgncinphaaGreatDoorKE7
import Derived.Test.YtllencgncinphaaGreatDoorTie
import Derived.Test.YtllencgncinphaaGreatDoorCards
import Derived.SevenTiedAt
namespace Go.Proofs.YtllencgncinphaaGreatDoor
open Go Go.ChangeShapes Go.WideShapes Go.ChangeAt Go.RowKit Go.Lib Go.Joins

theorem fnDecDiv_goes : false = Rows.fnDecDivRow.goesBy Tryz.pinned.checked.prog := by kernel_rfl

end Go.Proofs.YtllencgncinphaaGreatDoor
