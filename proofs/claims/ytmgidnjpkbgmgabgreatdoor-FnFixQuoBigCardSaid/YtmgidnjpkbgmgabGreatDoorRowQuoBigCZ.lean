/- A closed fact that the card of FnFixQuoBig asks. -/
import Derived.Test.YtmgidnjpkbgmgabGreatDoorKB6
import Derived.Test.YtmgidnjpkbgmgabGreatDoorTie
import Derived.Test.YtmgidnjpkbgmgabGreatDoorCards
import Derived.SevenTiedAt
namespace Go.Proofs.YtmgidnjpkbgmgabGreatDoor
open Go Go.ChangeShapes Go.WideShapes Go.ChangeAt Go.RowKit Go.Lib Go.Joins

theorem fnFixQuoBig_goes : false = Rows.fnFixQuoBigRow.goesBy Tryz.pinned.checked.prog := by kernel_rfl

end Go.Proofs.YtmgidnjpkbgmgabGreatDoor
