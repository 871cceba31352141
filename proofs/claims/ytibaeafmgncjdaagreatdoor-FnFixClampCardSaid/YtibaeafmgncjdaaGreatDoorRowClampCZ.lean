/- A closed fact that the card of FnFixClamp asks. -/
import Derived.Test.YtibaeafmgncjdaaGreatDoorK6
import Derived.Test.YtibaeafmgncjdaaGreatDoorTie
import Derived.Test.YtibaeafmgncjdaaGreatDoorCards
import Derived.SevenTiedAt
namespace Go.Proofs.YtibaeafmgncjdaaGreatDoor
open Go Go.ChangeShapes Go.WideShapes Go.ChangeAt Go.RowKit Go.Lib Go.Joins

theorem fnFixClamp_goes : false = Rows.fnFixClampRow.goesBy Tryz.pinned.checked.prog := by kernel_rfl

end Go.Proofs.YtibaeafmgncjdaaGreatDoor
