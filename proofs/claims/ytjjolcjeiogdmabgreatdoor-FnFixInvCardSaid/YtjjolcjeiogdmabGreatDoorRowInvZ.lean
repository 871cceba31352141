/- The inverse of a decimal is the nearest decimal, or an error; of 0 there is an error: for all decimals. The condition: the listed package variables hold what the program's text lays. -/
import Derived.Test.YtjjolcjeiogdmabGreatDoorRowInvBZ
import Derived.Test.YtjjolcjeiogdmabGreatDoorRowInvCZ
import Derived.Test.YtjjolcjeiogdmabGreatDoorK40
import Derived.Test.YtjjolcjeiogdmabGreatDoorTie
import Derived.Test.YtjjolcjeiogdmabGreatDoorCards
import Derived.SevenTiedAt
namespace Go.Proofs.YtjjolcjeiogdmabGreatDoor
open Go Go.ChangeShapes Go.WideShapes Go.ChangeAt Go.RowKit Go.Lib Go.Joins

theorem fnFixInv_card_holds : Rows.FnFixInvCardSaid :=
  Claim7.holds_tied_plain_at .later [] [.data, .data, .data, .data, .data, .data, .data, .sentinel, .sentinel, .sentinel, .data] true Rows.fnFixInvCard.stood.harness false
    fnFixInv_row_holds (fun _ h => by cases h) (by kernel_rfl) (fun _ h => by cases h) fnFixInv_row_tie rfl ⟨rfl, rfl⟩ main_is rfl
    (fun f fn hf hfn => by
      obtain rfl : f = 3 := Option.some.inj ((show Tryz.prog.funcNamed "given.example/pub-alexandrine/laws.FnFixInv" = some 3 by kernel_rfl).symm.trans hf) |>.symm
      obtain rfl : fn = Tryz.f3 := (Option.some.inj (Tryz.func3.symm.trans hfn)).symm
      exact ⟨looks_no, fun j t ht => by
        rw [Tryz.params3] at ht
        have hm : t ∈ [24] := by simpa using Array.mem_of_getElem? ht
        have hall : ([24].all fun u => !Tryz.prog.wantsStandIn u) = true := by kernel_rfl
        exact (show Tryz.prog.wantsStandIn t = false by simpa using List.all_eq_true.1 hall t hm)⟩)
    fnFixInv_goes
#print axioms fnFixInv_card_holds

end Go.Proofs.YtjjolcjeiogdmabGreatDoor
