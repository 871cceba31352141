/- Facts about the program as a whole that every card asks. -/
import Derived.Test.YtllencgncinphaaGreatDoorTie
import Derived.Test.YtllencgncinphaaGreatDoorCards
import Derived.SevenTiedAt
import Derived.Test.YtllencgncinphaaGreatDoorKE7
namespace Go.Proofs.YtllencgncinphaaGreatDoor
open Go Go.ChangeShapes Go.WideShapes Go.ChangeAt Go.RowKit Go.Lib Go.Joins
open Go.Lib (hid)

theorem main_is : Tryz.pinned.checked.prog.mainIs = some (Rows.fnDecRescaleCard.stood.harness.fst, Rows.fnDecRescaleCard.stood.harness.snd.toList) := by kernel_rfl

theorem looks_no : false = Tryz.pinned.checked.prog.looks [] := by kernel_rfl

end Go.Proofs.YtllencgncinphaaGreatDoor
