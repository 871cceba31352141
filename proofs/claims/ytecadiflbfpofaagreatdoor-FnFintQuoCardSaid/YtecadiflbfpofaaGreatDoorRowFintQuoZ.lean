/- The quotient of two whole numbers of at most 19 digits is told if it is whole: for all whole numbers of 64 bits. The condition: the listed package variables hold what the program's text lays. -/
import Derived.Test.YtecadiflbfpofaaGreatDoorTie
import Derived.Test.YtecadiflbfpofaaGreatDoorCards
import Derived.SevenTiedAt
import Derived.Test.YtecadiflbfpofaaGreatDoorJ17
namespace Go.Proofs.YtecadiflbfpofaaGreatDoor
open Go Go.ChangeShapes Go.WideShapes Go.ChangeAt Go.RowKit Go.Lib Go.Joins

theorem fnFintQuo_card_holds : Rows.FnFintQuoCardSaid :=
  Claim7.holds_tied_plain_at .later [] [.data, .data, .data, .data, .data, .data, .data, .sentinel, .sentinel, .data] true Rows.fnFintQuoCard.stood.harness false
    fnFintQuo_row_holds (fun _ h => by cases h) (by kernel_rfl) (fun _ h => by cases h) fnFintQuo_row_tie rfl ⟨rfl, rfl⟩ (by kernel_rfl) rfl
    (fun f fn hf hfn => by
      obtain rfl : f = 4 := Option.some.inj ((show Tryz.prog.funcNamed "given.example/pub-alexandrine/laws.FnFintQuo" = some 4 by kernel_rfl).symm.trans hf) |>.symm
      obtain rfl : fn = Tryz.f4 := (Option.some.inj (Tryz.func4.symm.trans hfn)).symm
      exact ⟨by kernel_rfl, fun j t ht => by
        rw [Tryz.params4] at ht
        have hm : t ∈ [22, 22] := by simpa using Array.mem_of_getElem? ht
        have hall : ([22, 22].all fun u => !Tryz.prog.wantsStandIn u) = true := by kernel_rfl
        exact (show Tryz.prog.wantsStandIn t = false by simpa using List.all_eq_true.1 hall t hm)⟩)
    (by kernel_rfl)
#print axioms fnFintQuo_card_holds

end Go.Proofs.YtecadiflbfpofaaGreatDoor
