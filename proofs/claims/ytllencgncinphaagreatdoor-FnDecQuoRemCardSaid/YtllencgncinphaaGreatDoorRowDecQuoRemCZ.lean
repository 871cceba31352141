/- A closed fact that the card of FnDecQuoRem asks. -/
import Derived.Test.YtllencgncinphaaGreatDoorKB7
import Derived.Test.YtllencgncinphaaGreatDoorTie
import Derived.Test.YtllencgncinphaaGreatDoorCards
import Derived.SevenTiedAt
namespace Go.Proofs.YtllencgncinphaaGreatDoor
open Go Go.ChangeShapes Go.WideShapes Go.ChangeAt Go.RowKit Go.Lib Go.Joins

theorem fnDecQuoRem_goes : false = Rows.fnDecQuoRemRow.goesBy Tryz.pinned.checked.prog := by kernel_rfl

end Go.Proofs.YtllencgncinphaaGreatDoor
