/- The product of two decimals by whole numbers of 64 bits alone is the nearest decimal with at least so many places, unless that way does not do: for all decimals and numbers of places. The condition: the listed package variables hold what the program's text lays. -/
import Derived.Test.YtibaeafmgncjdaaGreatDoorRowMulSmallBZ
import Derived.Test.YtibaeafmgncjdaaGreatDoorRowMulSmallCZ
import Derived.Test.YtibaeafmgncjdaaGreatDoorK7
import Derived.Test.YtibaeafmgncjdaaGreatDoorTie
import Derived.Test.YtibaeafmgncjdaaGreatDoorCards
import Derived.SevenTiedAt
namespace Go.Proofs.YtibaeafmgncjdaaGreatDoor
open Go Go.ChangeShapes Go.WideShapes Go.ChangeAt Go.RowKit Go.Lib Go.Joins

theorem fnFixMulSmall_card_holds : Rows.FnFixMulSmallCardSaid :=
  Claim7.holds_tied_plain_at .later [] [.data, .data, .data, .data, .data, .data, .data, .sentinel, .sentinel, .data] true Rows.fnFixMulSmallCard.stood.harness false
    fnFixMulSmall_row_holds (fun _ h => by cases h) (by kernel_rfl) (fun _ h => by cases h) fnFixMulSmall_row_tie rfl ⟨rfl, rfl⟩ main_is rfl
    (fun f fn hf hfn => by
      obtain rfl : f = 8 := Option.some.inj ((show Tryz.prog.funcNamed "given.example/pub-alexandrine/laws.FnFixMulSmall" = some 8 by kernel_rfl).symm.trans hf) |>.symm
      obtain rfl : fn = Tryz.f8 := (Option.some.inj (Tryz.func8.symm.trans hfn)).symm
      exact ⟨looks_no, fun j t ht => by
        rw [Tryz.params8] at ht
        have hm : t ∈ [24, 24, 3] := by simpa using Array.mem_of_getElem? ht
        have hall : ([24, 24, 3].all fun u => !Tryz.prog.wantsStandIn u) = true := by kernel_rfl
        exact (show Tryz.prog.wantsStandIn t = false by simpa using List.all_eq_true.1 hall t hm)⟩)
    fnFixMulSmall_goes
#print axioms fnFixMulSmall_card_holds

end Go.Proofs.YtibaeafmgncjdaaGreatDoor
