/- A closed fact that the card of FnFixAddBig asks. -/
import Derived.Test.YtibaeafmgncjdaaGreatDoorK6
import Derived.Test.YtibaeafmgncjdaaGreatDoorTie
import Derived.Test.YtibaeafmgncjdaaGreatDoorCards
import Derived.SevenTiedAt
namespace Go.Proofs.YtibaeafmgncjdaaGreatDoor
open Go Go.ChangeShapes Go.WideShapes Go.ChangeAt Go.RowKit Go.Lib Go.Joins

theorem fnFixAddBig_goes : false = Rows.fnFixAddBigRow.goesBy Tryz.pinned.checked.prog := by kernel_rfl

end Go.Proofs.YtibaeafmgncjdaaGreatDoor
