/- Facts about the program as a whole that every card asks. -/
import Derived.Test.YtmgidnjpkbgmgabGreatDoorTie
import Derived.Test.YtmgidnjpkbgmgabGreatDoorCards
import Derived.SevenTiedAt
import Derived.Test.YtmgidnjpkbgmgabGreatDoorKB6
namespace Go.Proofs.YtmgidnjpkbgmgabGreatDoor
open Go Go.ChangeShapes Go.WideShapes Go.ChangeAt Go.RowKit Go.Lib Go.Joins

theorem main_is : Tryz.pinned.checked.prog.mainIs = some (Rows.fnFixQuoRemBigCard.stood.harness.fst, Rows.fnFixQuoRemBigCard.stood.harness.snd.toList) := by kernel_rfl

theorem looks_no : false = Tryz.pinned.checked.prog.looks [] := by kernel_rfl

end Go.Proofs.YtmgidnjpkbgmgabGreatDoor
