/- A decimal between two others is the first one if it is less, the second one if it is greater, and itself otherwise: for all decimals. The condition: the listed package variables hold what the program's text lays. -/
import Derived.Test.YtibaeafmgncjdaaGreatDoorRowClampBZ
import Derived.Test.YtibaeafmgncjdaaGreatDoorRowClampCZ
import Derived.Test.YtibaeafmgncjdaaGreatDoorK7
import Derived.Test.YtibaeafmgncjdaaGreatDoorTie
import Derived.Test.YtibaeafmgncjdaaGreatDoorCards
import Derived.SevenTiedAt
namespace Go.Proofs.YtibaeafmgncjdaaGreatDoor
open Go Go.ChangeShapes Go.WideShapes Go.ChangeAt Go.RowKit Go.Lib Go.Joins

theorem fnFixClamp_card_holds : Rows.FnFixClampCardSaid :=
  Claim7.holds_tied_plain_at .later [] [.data, .data, .data, .data, .data, .data, .data, .sentinel, .sentinel, .data] true Rows.fnFixClampCard.stood.harness false
    fnFixClamp_row_holds (fun _ h => by cases h) (by kernel_rfl) (fun _ h => by cases h) fnFixClamp_row_tie rfl ⟨rfl, rfl⟩ main_is rfl
    (fun f fn hf hfn => by
      obtain rfl : f = 11 := Option.some.inj ((show Tryz.prog.funcNamed "given.example/pub-alexandrine/laws.FnFixClamp" = some 11 by kernel_rfl).symm.trans hf) |>.symm
      obtain rfl : fn = Tryz.f11 := (Option.some.inj (Tryz.func11.symm.trans hfn)).symm
      exact ⟨looks_no, fun j t ht => by
        rw [Tryz.params11] at ht
        have hm : t ∈ [24, 24, 24] := by simpa using Array.mem_of_getElem? ht
        have hall : ([24, 24, 24].all fun u => !Tryz.prog.wantsStandIn u) = true := by kernel_rfl
        exact (show Tryz.prog.wantsStandIn t = false by simpa using List.all_eq_true.1 hall t hm)⟩)
    fnFixClamp_goes
#print axioms fnFixClamp_card_holds

end Go.Proofs.YtibaeafmgncjdaaGreatDoor
