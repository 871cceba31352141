/- Two decimals compare as their numbers do, and by their amounts as these: for all decimals. The condition: the listed package variables hold what the program's text lays. -/
import Derived.Test.YtibaeafmgncjdaaGreatDoorRowCmpBZ
import Derived.Test.YtibaeafmgncjdaaGreatDoorRowCmpCZ
import Derived.Test.YtibaeafmgncjdaaGreatDoorK7
import Derived.Test.YtibaeafmgncjdaaGreatDoorTie
import Derived.Test.YtibaeafmgncjdaaGreatDoorCards
import Derived.SevenTiedAt
namespace Go.Proofs.YtibaeafmgncjdaaGreatDoor
open Go Go.ChangeShapes Go.WideShapes Go.ChangeAt Go.RowKit Go.Lib Go.Joins

theorem fnFixCmp_card_holds : Rows.FnFixCmpCardSaid :=
  Claim7.holds_tied_plain_at .later [] [.data, .data, .data, .data, .data, .data, .data, .sentinel, .sentinel, .data] true Rows.fnFixCmpCard.stood.harness false
    fnFixCmp_row_holds (fun _ h => by cases h) (by kernel_rfl) (fun _ h => by cases h) fnFixCmp_row_tie rfl ⟨rfl, rfl⟩ main_is rfl
    (fun f fn hf hfn => by
      obtain rfl : f = 3 := Option.some.inj ((show Tryz.prog.funcNamed "given.example/pub-alexandrine/laws.FnFixCmp" = some 3 by kernel_rfl).symm.trans hf) |>.symm
      obtain rfl : fn = Tryz.f3 := (Option.some.inj (Tryz.func3.symm.trans hfn)).symm
      exact ⟨looks_no, fun j t ht => by
        rw [Tryz.params3] at ht
        have hm : t ∈ [24, 24] := by simpa using Array.mem_of_getElem? ht
        have hall : ([24, 24].all fun u => !Tryz.prog.wantsStandIn u) = true := by kernel_rfl
        exact (show Tryz.prog.wantsStandIn t = false by simpa using List.all_eq_true.1 hall t hm)⟩)
    fnFixCmp_goes
#print axioms fnFixCmp_card_holds

end Go.Proofs.YtibaeafmgncjdaaGreatDoor
