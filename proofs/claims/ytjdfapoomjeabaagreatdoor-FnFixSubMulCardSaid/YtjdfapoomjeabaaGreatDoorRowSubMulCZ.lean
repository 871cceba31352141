/- A closed fact that the card of FnFixSubMul asks. -/
import Derived.Test.YtjdfapoomjeabaaGreatDoorK6
import Derived.Test.YtjdfapoomjeabaaGreatDoorTie
import Derived.Test.YtjdfapoomjeabaaGreatDoorCards
import Derived.SevenTiedAt
namespace Go.Proofs.YtjdfapoomjeabaaGreatDoor
open Go Go.ChangeShapes Go.WideShapes Go.ChangeAt Go.RowKit Go.Lib Go.Joins

theorem fnFixSubMul_goes : false = Rows.fnFixSubMulRow.goesBy Tryz.pinned.checked.prog := by kernel_rfl

end Go.Proofs.YtjdfapoomjeabaaGreatDoor
