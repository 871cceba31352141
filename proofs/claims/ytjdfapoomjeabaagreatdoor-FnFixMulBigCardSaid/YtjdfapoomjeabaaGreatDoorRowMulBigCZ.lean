/- A closed fact that the card of FnFixMulBig asks. -/
import Derived.Test.YtjdfapoomjeabaaGreatDoorK6
import Derived.Test.YtjdfapoomjeabaaGreatDoorTie
import Derived.Test.YtjdfapoomjeabaaGreatDoorCards
import Derived.SevenTiedAt
namespace Go.Proofs.YtjdfapoomjeabaaGreatDoor
open Go Go.ChangeShapes Go.WideShapes Go.ChangeAt Go.RowKit Go.Lib Go.Joins

theorem fnFixMulBig_goes : false = Rows.fnFixMulBigRow.goesBy Tryz.pinned.checked.prog := by kernel_rfl

end Go.Proofs.YtjdfapoomjeabaaGreatDoor
