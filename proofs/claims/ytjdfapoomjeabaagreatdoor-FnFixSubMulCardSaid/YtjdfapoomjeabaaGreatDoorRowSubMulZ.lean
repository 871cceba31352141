/- A decimal without the product of two others is the nearest decimal, without rounding in between, or an error: for all decimals. The condition: the listed package variables hold what the program's text lays. -/
import Derived.Test.YtjdfapoomjeabaaGreatDoorRowSubMulBZ
import Derived.Test.YtjdfapoomjeabaaGreatDoorRowSubMulCZ
import Derived.Test.YtjdfapoomjeabaaGreatDoorK7
import Derived.Test.YtjdfapoomjeabaaGreatDoorTie
import Derived.Test.YtjdfapoomjeabaaGreatDoorCards
import Derived.SevenTiedAt
namespace Go.Proofs.YtjdfapoomjeabaaGreatDoor
open Go Go.ChangeShapes Go.WideShapes Go.ChangeAt Go.RowKit Go.Lib Go.Joins

theorem fnFixSubMul_card_holds : Rows.FnFixSubMulCardSaid :=
  Claim7.holds_tied_plain_at .later [] [.data, .data, .data, .data, .data, .data, .data, .sentinel, .sentinel, .data] true Rows.fnFixSubMulCard.stood.harness false
    fnFixSubMul_row_holds (fun _ h => by cases h) (by kernel_rfl) (fun _ h => by cases h) fnFixSubMul_row_tie rfl ⟨rfl, rfl⟩ main_is rfl
    (fun f fn hf hfn => by
      obtain rfl : f = 9 := Option.some.inj ((show Tryz.prog.funcNamed "given.example/pub-alexandrine/laws.FnFixSubMul" = some 9 by kernel_rfl).symm.trans hf) |>.symm
      obtain rfl : fn = Tryz.f9 := (Option.some.inj (Tryz.func9.symm.trans hfn)).symm
      exact ⟨looks_no, fun j t ht => by
        rw [Tryz.params9] at ht
        have hm : t ∈ [24, 24, 24] := by simpa using Array.mem_of_getElem? ht
        have hall : ([24, 24, 24].all fun u => !Tryz.prog.wantsStandIn u) = true := by kernel_rfl
        exact (show Tryz.prog.wantsStandIn t = false by simpa using List.all_eq_true.1 hall t hm)⟩)
    fnFixSubMul_goes
#print axioms fnFixSubMul_card_holds

end Go.Proofs.YtjdfapoomjeabaaGreatDoor
