/- Facts about the program as a whole that every card asks. -/
import Derived.Test.YtibaeafmgncjdaaGreatDoorTie
import Derived.Test.YtibaeafmgncjdaaGreatDoorCards
import Derived.SevenTiedAt
import Derived.Test.YtibaeafmgncjdaaGreatDoorK6
namespace Go.Proofs.YtibaeafmgncjdaaGreatDoor
open Go Go.ChangeShapes Go.WideShapes Go.ChangeAt Go.RowKit Go.Lib Go.Joins

theorem main_is : Tryz.pinned.checked.prog.mainIs = some (Rows.fnFixCmpCard.stood.harness.fst, Rows.fnFixCmpCard.stood.harness.snd.toList) := by kernel_rfl

theorem looks_no : false = Tryz.pinned.checked.prog.looks [] := by kernel_rfl

end Go.Proofs.YtibaeafmgncjdaaGreatDoor
