/- In the order of all forms of decimals those that are equal stand by their scales: for all decimals. The condition: the listed package variables hold what the program's text lays. -/
import Derived.Test.YtecadiflbfpofaaGreatDoorTie
import Derived.Test.YtecadiflbfpofaaGreatDoorCards
import Derived.SevenTiedAt
import Derived.Test.YtecadiflbfpofaaGreatDoorJ18
namespace Go.Proofs.YtecadiflbfpofaaGreatDoor
open Go Go.ChangeShapes Go.WideShapes Go.ChangeAt Go.RowKit Go.Lib Go.Joins

theorem fnFixCmpTotal_card_holds : Rows.FnFixCmpTotalCardSaid :=
  Claim7.holds_tied_plain_at .later [] [.data, .data, .data, .data, .data, .data, .data, .sentinel, .sentinel, .data] true Rows.fnFixCmpTotalCard.stood.harness false
    fnFixCmpTotal_row_holds (fun _ h => by cases h) (by kernel_rfl) (fun _ h => by cases h) fnFixCmpTotal_row_tie rfl ⟨rfl, rfl⟩ (by kernel_rfl) rfl
    (fun f fn hf hfn => by
      obtain rfl : f = 6 := Option.some.inj ((show Tryz.prog.funcNamed "given.example/pub-alexandrine/laws.FnFixCmpTotal" = some 6 by kernel_rfl).symm.trans hf) |>.symm
      obtain rfl : fn = Tryz.f6 := (Option.some.inj (Tryz.func6.symm.trans hfn)).symm
      exact ⟨by kernel_rfl, fun j t ht => by
        rw [Tryz.params6] at ht
        have hm : t ∈ [24, 24] := by simpa using Array.mem_of_getElem? ht
        have hall : ([24, 24].all fun u => !Tryz.prog.wantsStandIn u) = true := by kernel_rfl
        exact (show Tryz.prog.wantsStandIn t = false by simpa using List.all_eq_true.1 hall t hm)⟩)
    (by kernel_rfl)
#print axioms fnFixCmpTotal_card_holds

end Go.Proofs.YtecadiflbfpofaaGreatDoor
