/- The greater and the smaller one of two decimals are those in the order of all forms: for all decimals. The condition: the listed package variables hold what the program's text lays. -/
import Derived.Test.YtibaeafmgncjdaaGreatDoorRowEndsBZ
import Derived.Test.YtibaeafmgncjdaaGreatDoorRowEndsCZ
import Derived.Test.YtibaeafmgncjdaaGreatDoorK7
import Derived.Test.YtibaeafmgncjdaaGreatDoorTie
import Derived.Test.YtibaeafmgncjdaaGreatDoorCards
import Derived.SevenTiedAt
namespace Go.Proofs.YtibaeafmgncjdaaGreatDoor
open Go Go.ChangeShapes Go.WideShapes Go.ChangeAt Go.RowKit Go.Lib Go.Joins

theorem fnFixEnds_card_holds : Rows.FnFixEndsCardSaid :=
  Claim7.holds_tied_plain_at .later [] [.data, .data, .data, .data, .data, .data, .data, .sentinel, .sentinel, .data] true Rows.fnFixEndsCard.stood.harness false
    fnFixEnds_row_holds (fun _ h => by cases h) (by kernel_rfl) (fun _ h => by cases h) fnFixEnds_row_tie rfl ⟨rfl, rfl⟩ main_is rfl
    (fun f fn hf hfn => by
      obtain rfl : f = 12 := Option.some.inj ((show Tryz.prog.funcNamed "given.example/pub-alexandrine/laws.FnFixEnds" = some 12 by kernel_rfl).symm.trans hf) |>.symm
      obtain rfl : fn = Tryz.f12 := (Option.some.inj (Tryz.func12.symm.trans hfn)).symm
      exact ⟨looks_no, fun j t ht => by
        rw [Tryz.params12] at ht
        have hm : t ∈ [24, 24] := by simpa using Array.mem_of_getElem? ht
        have hall : ([24, 24].all fun u => !Tryz.prog.wantsStandIn u) = true := by kernel_rfl
        exact (show Tryz.prog.wantsStandIn t = false by simpa using List.all_eq_true.1 hall t hm)⟩)
    fnFixEnds_goes
#print axioms fnFixEnds_card_holds

end Go.Proofs.YtibaeafmgncjdaaGreatDoor
