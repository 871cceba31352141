/- A closed fact that the card of FnDecRescale asks. -/
import Derived.Test.YtllencgncinphaaGreatDoorK7
import Derived.Test.YtllencgncinphaaGreatDoorTie
import Derived.Test.YtllencgncinphaaGreatDoorCards
import Derived.SevenTiedAt
namespace Go.Proofs.YtllencgncinphaaGreatDoor
open Go Go.ChangeShapes Go.WideShapes Go.ChangeAt Go.RowKit Go.Lib Go.Joins

theorem fnDecRescale_goes : false = Rows.fnDecRescaleRow.goesBy Tryz.pinned.checked.prog := by kernel_rfl

end Go.Proofs.YtllencgncinphaaGreatDoor
