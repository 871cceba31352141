/- Two decimals of one sign compare by whole numbers of any length as their numbers do: for all decimals. The condition: the listed package variables hold what the program's text lays. -/
import Derived.Test.YtibaeafmgncjdaaGreatDoorRowCmpBigBZ
import Derived.Test.YtibaeafmgncjdaaGreatDoorRowCmpBigCZ
import Derived.Test.YtibaeafmgncjdaaGreatDoorK7
import Derived.Test.YtibaeafmgncjdaaGreatDoorTie
import Derived.Test.YtibaeafmgncjdaaGreatDoorCards
import Derived.SevenTiedAt
namespace Go.Proofs.YtibaeafmgncjdaaGreatDoor
open Go Go.ChangeShapes Go.WideShapes Go.ChangeAt Go.RowKit Go.Lib Go.Joins

theorem fnFixCmpBig_card_holds : Rows.FnFixCmpBigCardSaid :=
  Claim7.holds_tied_plain_at .later [] [.data, .data, .data, .data, .data, .data, .data, .sentinel, .sentinel, .data] true Rows.fnFixCmpBigCard.stood.harness false
    fnFixCmpBig_row_holds (fun _ h => by cases h) (by kernel_rfl) (fun _ h => by cases h) fnFixCmpBig_row_tie rfl ⟨rfl, rfl⟩ main_is rfl
    (fun f fn hf hfn => by
      obtain rfl : f = 10 := Option.some.inj ((show Tryz.prog.funcNamed "given.example/pub-alexandrine/laws.FnFixCmpBig" = some 10 by kernel_rfl).symm.trans hf) |>.symm
      obtain rfl : fn = Tryz.f10 := (Option.some.inj (Tryz.func10.symm.trans hfn)).symm
      exact ⟨looks_no, fun j t ht => by
        rw [Tryz.params10] at ht
        have hm : t ∈ [24, 24] := by simpa using Array.mem_of_getElem? ht
        have hall : ([24, 24].all fun u => !Tryz.prog.wantsStandIn u) = true := by kernel_rfl
        exact (show Tryz.prog.wantsStandIn t = false by simpa using List.all_eq_true.1 hall t hm)⟩)
    fnFixCmpBig_goes
#print axioms fnFixCmpBig_card_holds

end Go.Proofs.YtibaeafmgncjdaaGreatDoor
