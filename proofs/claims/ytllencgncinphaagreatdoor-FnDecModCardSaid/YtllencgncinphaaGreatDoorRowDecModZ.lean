/- The remainder of two decimals is what is left of the first one: for all decimals of at most 60 digits, with exponents from -60 to 60. The condition: the listed package variables hold what the program's text lays. -/
import Derived.Test.YtllencgncinphaaGreatDoorRowDecModBZ
import Derived.Test.YtllencgncinphaaGreatDoorRowDecModCZ
import Derived.Test.YtllencgncinphaaGreatDoorKB44
import Derived.Test.YtllencgncinphaaGreatDoorTie
import Derived.Test.YtllencgncinphaaGreatDoorCards
import Derived.SevenTiedAt
namespace Go.Proofs.YtllencgncinphaaGreatDoor
open Go Go.ChangeShapes Go.WideShapes Go.ChangeAt Go.RowKit Go.Lib Go.Joins

theorem fnDecMod_card_holds : Rows.FnDecModCardSaid :=
  Claim7.holds_tied_plain_at .later [] [.data, .data, .data, .data, .data, .data] true Rows.fnDecModCard.stood.harness false
    fnDecMod_row_holds (fun _ h => by cases h) (by kernel_rfl) (fun _ h => by cases h) fnDecMod_row_tie rfl ⟨rfl, rfl⟩ main_is rfl
    (fun f fn hf hfn => by
      obtain rfl : f = 5 := Option.some.inj ((show Tryz.prog.funcNamed "given.example/pub-alexandrine/laws.FnDecMod" = some 5 by kernel_rfl).symm.trans hf) |>.symm
      obtain rfl : fn = Tryz.f5 := (Option.some.inj (Tryz.func5.symm.trans hfn)).symm
      exact ⟨looks_no, fun j t ht => by
        rw [Tryz.params5] at ht
        have hm : t ∈ [23, 23] := by simpa using Array.mem_of_getElem? ht
        have hall : ([23, 23].all fun u => !Tryz.prog.wantsStandIn u) = true := by kernel_rfl
        exact (show Tryz.prog.wantsStandIn t = false by simpa using List.all_eq_true.1 hall t hm)⟩)
    fnDecMod_goes
#print axioms fnDecMod_card_holds

end Go.Proofs.YtllencgncinphaaGreatDoor
