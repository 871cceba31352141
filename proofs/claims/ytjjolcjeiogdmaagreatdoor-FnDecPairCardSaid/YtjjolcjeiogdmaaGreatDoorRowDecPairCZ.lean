/- A closed fact that the card of FnDecPair asks. -/
import Derived.Test.YtjjolcjeiogdmaaGreatDoorK7
import Derived.Test.YtjjolcjeiogdmaaGreatDoorTie
import Derived.Test.YtjjolcjeiogdmaaGreatDoorCards
import Derived.SevenTiedAt
namespace Go.Proofs.YtjjolcjeiogdmaaGreatDoor
open Go Go.ChangeShapes Go.WideShapes Go.ChangeAt Go.RowKit Go.Lib Go.Joins

theorem fnDecPair_goes : false = Rows.fnDecPairRow.goesBy Tryz.pinned.checked.prog := by kernel_rfl

end Go.Proofs.YtjjolcjeiogdmaaGreatDoor
