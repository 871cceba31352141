/- A closed fact that the card of FnDecDivRound asks. -/
import Derived.Test.YtllencgncinphaaGreatDoorKC7
import Derived.Test.YtllencgncinphaaGreatDoorTie
import Derived.Test.YtllencgncinphaaGreatDoorCards
import Derived.SevenTiedAt
namespace Go.Proofs.YtllencgncinphaaGreatDoor
open Go Go.ChangeShapes Go.WideShapes Go.ChangeAt Go.RowKit Go.Lib Go.Joins

theorem fnDecDivRound_goes : false = Rows.fnDecDivRoundRow.goesBy Tryz.pinned.checked.prog := by kernel_rfl

end Go.Proofs.YtllencgncinphaaGreatDoor
