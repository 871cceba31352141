/- A closed fact that the card of FnFixMulSmall asks. -/
import Derived.Test.YtibaeafmgncjdaaGreatDoorK6
import Derived.Test.YtibaeafmgncjdaaGreatDoorTie
import Derived.Test.YtibaeafmgncjdaaGreatDoorCards
import Derived.SevenTiedAt
namespace Go.Proofs.YtibaeafmgncjdaaGreatDoor
open Go Go.ChangeShapes Go.WideShapes Go.ChangeAt Go.RowKit Go.Lib Go.Joins

theorem fnFixMulSmall_goes : false = Rows.fnFixMulSmallRow.goesBy Tryz.pinned.checked.prog := by kernel_rfl

end Go.Proofs.YtibaeafmgncjdaaGreatDoor
