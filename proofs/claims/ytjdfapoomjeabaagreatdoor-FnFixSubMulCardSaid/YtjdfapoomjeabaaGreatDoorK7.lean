/- Facts about the program as a whole that every card asks. -/
import Derived.Test.YtjdfapoomjeabaaGreatDoorTie
import Derived.Test.YtjdfapoomjeabaaGreatDoorCards
import Derived.SevenTiedAt
import Derived.Test.YtjdfapoomjeabaaGreatDoorK6
namespace Go.Proofs.YtjdfapoomjeabaaGreatDoor
open Go Go.ChangeShapes Go.WideShapes Go.ChangeAt Go.RowKit Go.Lib Go.Joins

theorem main_is : Tryz.pinned.checked.prog.mainIs = some (Rows.fnFixMulCard.stood.harness.fst, Rows.fnFixMulCard.stood.harness.snd.toList) := by kernel_rfl

theorem looks_no : false = Tryz.pinned.checked.prog.looks [] := by kernel_rfl

end Go.Proofs.YtjdfapoomjeabaaGreatDoor
