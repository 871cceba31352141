/-
  DERIVED. GIVEN WITH THE SEED: THE CARDS: each row of YtllencgncinphaaGreatDoorRows.lean that lists a variable, with what it lists TIED to the program's text (the seventh form; the later family's looks); each row that meets fmt, with fmt's text TOLD by the authors' own Lean function (tested against real Go, not proved from fmt's source: count such statements apart). THE CARD IS WHAT COUNTS. Prove the row's statement (the work); the ties are given (YtllencgncinphaaGreatDoorTie.lean); close each card by the builder's one call (the guide's Derived/Test/ToyasCard.lean, 'card_holds'). Laid BY PROGRAM, IN A SANDBOX (cutbox-door.mjs). By AI agents, Wed Nov 11 2026. No macro, syntax, notation, axiom, sorry.
-/
import Derived.Test.YtllencgncinphaaGreatDoorRows
import GoSem.ClaimSeven
namespace Go.Proofs.YtllencgncinphaaGreatDoor
namespace Rows

/-- THE TIED CARD OF 'laws.FnDecRescale'. -/
def fnDecRescaleCard : Claim7 := { stood := { row := fnDecRescaleRow, standIns := [], harness := (true, "5f336a02400e97730018f3ad25c2f99e10f1a5a87c684e27a8ce9d61e5575d55"), looks := false }, kinds := [], alts := [], laidByText := true, laidKinds := [.data, .data, .data, .data, .data, .data], laidTests := true, laidLooks := .later }
def FnDecRescaleCardSaid : Prop := Claim7.holds Tryz.pinned (.plain (OpenSpec.ofChange fnDecRescaleSpec)) fnDecRescaleCard

/-- THE TIED CARD OF 'laws.FnDecQuoRem'. -/
def fnDecQuoRemCard : Claim7 := { stood := { row := fnDecQuoRemRow, standIns := [], harness := (true, "5f336a02400e97730018f3ad25c2f99e10f1a5a87c684e27a8ce9d61e5575d55"), looks := false }, kinds := [], alts := [], laidByText := true, laidKinds := [.data, .data, .data, .data, .data, .data], laidTests := true, laidLooks := .later }
def FnDecQuoRemCardSaid : Prop := Claim7.holds Tryz.pinned (.plain (OpenSpec.ofChange fnDecQuoRemSpec)) fnDecQuoRemCard

/-- THE TIED CARD OF 'laws.FnDecMod'. -/
def fnDecModCard : Claim7 := { stood := { row := fnDecModRow, standIns := [], harness := (true, "5f336a02400e97730018f3ad25c2f99e10f1a5a87c684e27a8ce9d61e5575d55"), looks := false }, kinds := [], alts := [], laidByText := true, laidKinds := [.data, .data, .data, .data, .data, .data], laidTests := true, laidLooks := .later }
def FnDecModCardSaid : Prop := Claim7.holds Tryz.pinned (.plain (OpenSpec.ofChange fnDecModSpec)) fnDecModCard

/-- THE TIED CARD OF 'laws.FnDecTruncate'. -/
def fnDecTruncateCard : Claim7 := { stood := { row := fnDecTruncateRow, standIns := [], harness := (true, "5f336a02400e97730018f3ad25c2f99e10f1a5a87c684e27a8ce9d61e5575d55"), looks := false }, kinds := [], alts := [], laidByText := true, laidKinds := [.data, .data, .data, .data, .data, .data], laidTests := true, laidLooks := .later }
def FnDecTruncateCardSaid : Prop := Claim7.holds Tryz.pinned (.plain (OpenSpec.ofChange fnDecTruncateSpec)) fnDecTruncateCard

/-- THE TIED CARD OF 'laws.FnDecFloor'. -/
def fnDecFloorCard : Claim7 := { stood := { row := fnDecFloorRow, standIns := [], harness := (true, "5f336a02400e97730018f3ad25c2f99e10f1a5a87c684e27a8ce9d61e5575d55"), looks := false }, kinds := [], alts := [], laidByText := true, laidKinds := [.data, .data, .data, .data, .data, .data], laidTests := true, laidLooks := .later }
def FnDecFloorCardSaid : Prop := Claim7.holds Tryz.pinned (.plain (OpenSpec.ofChange fnDecFloorSpec)) fnDecFloorCard

/-- THE TIED CARD OF 'laws.FnDecDivRound'. -/
def fnDecDivRoundCard : Claim7 := { stood := { row := fnDecDivRoundRow, standIns := [], harness := (true, "5f336a02400e97730018f3ad25c2f99e10f1a5a87c684e27a8ce9d61e5575d55"), looks := false }, kinds := [], alts := [], laidByText := true, laidKinds := [.data, .data, .data, .data, .data, .data], laidTests := true, laidLooks := .later }
def FnDecDivRoundCardSaid : Prop := Claim7.holds Tryz.pinned (.plain (OpenSpec.ofChange fnDecDivRoundSpec)) fnDecDivRoundCard

/-- THE TIED CARD OF 'laws.FnDecDiv'. -/
def fnDecDivCard : Claim7 := { stood := { row := fnDecDivRow, standIns := [], harness := (true, "5f336a02400e97730018f3ad25c2f99e10f1a5a87c684e27a8ce9d61e5575d55"), looks := false }, kinds := [], alts := [], laidByText := true, laidKinds := [.data, .data, .data, .data, .data, .data, .data], laidTests := true, laidLooks := .later }
def FnDecDivCardSaid : Prop := Claim7.holds Tryz.pinned (.plain (OpenSpec.ofChange fnDecDivSpec)) fnDecDivCard

/-- THE TIED CARD OF 'laws.FnDecCash'. -/
def fnDecCashCard : Claim7 := { stood := { row := fnDecCashRow, standIns := [], harness := (true, "5f336a02400e97730018f3ad25c2f99e10f1a5a87c684e27a8ce9d61e5575d55"), looks := false }, kinds := [], alts := [], laidByText := true, laidKinds := [.data, .data, .data, .data, .data, .data], laidTests := true, laidLooks := .later }
def FnDecCashCardSaid : Prop := Claim7.holds Tryz.pinned (.plain (OpenSpec.ofChange fnDecCashSpec)) fnDecCashCard

/-- THE TIED CARD OF 'laws.FnDecRound'. -/
def fnDecRoundCard : Claim7 := { stood := { row := fnDecRoundRow, standIns := [], harness := (true, "5f336a02400e97730018f3ad25c2f99e10f1a5a87c684e27a8ce9d61e5575d55"), looks := false }, kinds := [], alts := [], laidByText := true, laidKinds := [.data, .data, .data, .data, .data, .data], laidTests := true, laidLooks := .later }
def FnDecRoundCardSaid : Prop := Claim7.holds Tryz.pinned (.plain (OpenSpec.ofChange fnDecRoundSpec)) fnDecRoundCard

/-- THE SECOND FORM's CARD OF 'laws.FnDecRescale'. -/
def fnDecRescaleUptoCard : Claim7 := { stood := { row := fnDecRescaleUptoRow, standIns := [], harness := (true, "5f336a02400e97730018f3ad25c2f99e10f1a5a87c684e27a8ce9d61e5575d55"), looks := false }, kinds := [], alts := [], laidByText := true, laidKinds := [.data, .data, .data, .data, .data, .data], laidTests := true, laidLooks := .later }
def FnDecRescaleUptoCardSaid : Prop := Claim7.holds Tryz.pinned (.plain (OpenSpec.upto fnDecRescaleSpec)) fnDecRescaleUptoCard

/-- THE SECOND FORM's CARD OF 'laws.FnDecQuoRem'. -/
def fnDecQuoRemUptoCard : Claim7 := { stood := { row := fnDecQuoRemUptoRow, standIns := [], harness := (true, "5f336a02400e97730018f3ad25c2f99e10f1a5a87c684e27a8ce9d61e5575d55"), looks := false }, kinds := [], alts := [], laidByText := true, laidKinds := [.data, .data, .data, .data, .data, .data], laidTests := true, laidLooks := .later }
def FnDecQuoRemUptoCardSaid : Prop := Claim7.holds Tryz.pinned (.plain (OpenSpec.upto fnDecQuoRemSpec)) fnDecQuoRemUptoCard

/-- THE SECOND FORM's CARD OF 'laws.FnDecMod'. -/
def fnDecModUptoCard : Claim7 := { stood := { row := fnDecModUptoRow, standIns := [], harness := (true, "5f336a02400e97730018f3ad25c2f99e10f1a5a87c684e27a8ce9d61e5575d55"), looks := false }, kinds := [], alts := [], laidByText := true, laidKinds := [.data, .data, .data, .data, .data, .data], laidTests := true, laidLooks := .later }
def FnDecModUptoCardSaid : Prop := Claim7.holds Tryz.pinned (.plain (OpenSpec.upto fnDecModSpec)) fnDecModUptoCard

/-- THE SECOND FORM's CARD OF 'laws.FnDecTruncate'. -/
def fnDecTruncateUptoCard : Claim7 := { stood := { row := fnDecTruncateUptoRow, standIns := [], harness := (true, "5f336a02400e97730018f3ad25c2f99e10f1a5a87c684e27a8ce9d61e5575d55"), looks := false }, kinds := [], alts := [], laidByText := true, laidKinds := [.data, .data, .data, .data, .data, .data], laidTests := true, laidLooks := .later }
def FnDecTruncateUptoCardSaid : Prop := Claim7.holds Tryz.pinned (.plain (OpenSpec.upto fnDecTruncateSpec)) fnDecTruncateUptoCard

/-- THE SECOND FORM's CARD OF 'laws.FnDecFloor'. -/
def fnDecFloorUptoCard : Claim7 := { stood := { row := fnDecFloorUptoRow, standIns := [], harness := (true, "5f336a02400e97730018f3ad25c2f99e10f1a5a87c684e27a8ce9d61e5575d55"), looks := false }, kinds := [], alts := [], laidByText := true, laidKinds := [.data, .data, .data, .data, .data, .data], laidTests := true, laidLooks := .later }
def FnDecFloorUptoCardSaid : Prop := Claim7.holds Tryz.pinned (.plain (OpenSpec.upto fnDecFloorSpec)) fnDecFloorUptoCard

/-- THE SECOND FORM's CARD OF 'laws.FnDecDivRound'. -/
def fnDecDivRoundUptoCard : Claim7 := { stood := { row := fnDecDivRoundUptoRow, standIns := [], harness := (true, "5f336a02400e97730018f3ad25c2f99e10f1a5a87c684e27a8ce9d61e5575d55"), looks := false }, kinds := [], alts := [], laidByText := true, laidKinds := [.data, .data, .data, .data, .data, .data], laidTests := true, laidLooks := .later }
def FnDecDivRoundUptoCardSaid : Prop := Claim7.holds Tryz.pinned (.plain (OpenSpec.upto fnDecDivRoundSpec)) fnDecDivRoundUptoCard

/-- THE SECOND FORM's CARD OF 'laws.FnDecDiv'. -/
def fnDecDivUptoCard : Claim7 := { stood := { row := fnDecDivUptoRow, standIns := [], harness := (true, "5f336a02400e97730018f3ad25c2f99e10f1a5a87c684e27a8ce9d61e5575d55"), looks := false }, kinds := [], alts := [], laidByText := true, laidKinds := [.data, .data, .data, .data, .data, .data, .data], laidTests := true, laidLooks := .later }
def FnDecDivUptoCardSaid : Prop := Claim7.holds Tryz.pinned (.plain (OpenSpec.upto fnDecDivSpec)) fnDecDivUptoCard

/-- THE SECOND FORM's CARD OF 'laws.FnDecCash'. -/
def fnDecCashUptoCard : Claim7 := { stood := { row := fnDecCashUptoRow, standIns := [], harness := (true, "5f336a02400e97730018f3ad25c2f99e10f1a5a87c684e27a8ce9d61e5575d55"), looks := false }, kinds := [], alts := [], laidByText := true, laidKinds := [.data, .data, .data, .data, .data, .data], laidTests := true, laidLooks := .later }
def FnDecCashUptoCardSaid : Prop := Claim7.holds Tryz.pinned (.plain (OpenSpec.upto fnDecCashSpec)) fnDecCashUptoCard

/-- THE SECOND FORM's CARD OF 'laws.FnDecRound'. -/
def fnDecRoundUptoCard : Claim7 := { stood := { row := fnDecRoundUptoRow, standIns := [], harness := (true, "5f336a02400e97730018f3ad25c2f99e10f1a5a87c684e27a8ce9d61e5575d55"), looks := false }, kinds := [], alts := [], laidByText := true, laidKinds := [.data, .data, .data, .data, .data, .data], laidTests := true, laidLooks := .later }
def FnDecRoundUptoCardSaid : Prop := Claim7.holds Tryz.pinned (.plain (OpenSpec.upto fnDecRoundSpec)) fnDecRoundUptoCard
end Rows
end Go.Proofs.YtllencgncinphaaGreatDoor
