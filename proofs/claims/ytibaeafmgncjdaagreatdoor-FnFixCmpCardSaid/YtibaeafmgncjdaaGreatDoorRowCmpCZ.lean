/- A closed fact that the card of FnFixCmp asks. -/
import Derived.Test.YtibaeafmgncjdaaGreatDoorK6
import Derived.Test.YtibaeafmgncjdaaGreatDoorTie
import Derived.Test.YtibaeafmgncjdaaGreatDoorCards
import Derived.SevenTiedAt
namespace Go.Proofs.YtibaeafmgncjdaaGreatDoor
open Go Go.ChangeShapes Go.WideShapes Go.ChangeAt Go.RowKit Go.Lib Go.Joins

theorem fnFixCmp_goes : false = Rows.fnFixCmpRow.goesBy Tryz.pinned.checked.prog := by kernel_rfl

end Go.Proofs.YtibaeafmgncjdaaGreatDoor
