/- A closed fact that the card of FnDecCmp asks. -/
import Derived.Test.YtjjolcjeiogdmaaGreatDoorK7
import Derived.Test.YtjjolcjeiogdmaaGreatDoorTie
import Derived.Test.YtjjolcjeiogdmaaGreatDoorCards
import Derived.SevenTiedAt
namespace Go.Proofs.YtjjolcjeiogdmaaGreatDoor
open Go Go.ChangeShapes Go.WideShapes Go.ChangeAt Go.RowKit Go.Lib Go.Joins

theorem fnDecCmp_goes : false = Rows.fnDecCmpRow.goesBy Tryz.pinned.checked.prog := by kernel_rfl

end Go.Proofs.YtjjolcjeiogdmaaGreatDoor
