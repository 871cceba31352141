/-
  DERIVED. GIVEN WITH THE SEED: THE CARDS: each row of YtjjolcjeiogdmabGreatDoorRows.lean that lists a variable, with what it lists TIED to the program's text (the seventh form; the later family's looks); each row that meets fmt, with fmt's text TOLD by the authors' own Lean function (tested against real Go, not proved from fmt's source: count such statements apart). THE CARD IS WHAT COUNTS. Prove the row's statement (the work); the ties are given (YtjjolcjeiogdmabGreatDoorTie.lean); close each card by the builder's one call (the guide's Derived/Test/ToyasCard.lean, 'card_holds'). Laid BY PROGRAM, IN A SANDBOX (cutbox-door.mjs). By AI agents, Wed Nov 11 2026. No macro, syntax, notation, axiom, sorry.
-/
import Derived.Test.YtjjolcjeiogdmabGreatDoorRows
import GoSem.ClaimSeven
namespace Go.Proofs.YtjjolcjeiogdmabGreatDoor
namespace Rows

/-- THE TIED CARD OF 'laws.FnFixInv'. -/
def fnFixInvCard : Claim7 := { stood := { row := fnFixInvRow, standIns := [], harness := (true, "2c700d005dab0d066a8ac7e98a4e1d1454200174df3c708483d19753b52723a4"), looks := false }, kinds := [], alts := [], laidByText := true, laidKinds := [.data, .data, .data, .data, .data, .data, .data, .sentinel, .sentinel, .sentinel, .data], laidTests := true, laidLooks := .later }
def FnFixInvCardSaid : Prop := Claim7.holds Tryz.pinned (.plain (OpenSpec.ofChange fnFixInvSpec)) fnFixInvCard

/-- THE SECOND FORM's CARD OF 'laws.FnFixInv'. -/
def fnFixInvUptoCard : Claim7 := { stood := { row := fnFixInvUptoRow, standIns := [], harness := (true, "2c700d005dab0d066a8ac7e98a4e1d1454200174df3c708483d19753b52723a4"), looks := false }, kinds := [], alts := [], laidByText := true, laidKinds := [.data, .data, .data, .data, .data, .data, .data, .sentinel, .sentinel, .sentinel, .data], laidTests := true, laidLooks := .later }
def FnFixInvUptoCardSaid : Prop := Claim7.holds Tryz.pinned (.plain (OpenSpec.upto fnFixInvSpec)) fnFixInvUptoCard
end Rows
end Go.Proofs.YtjjolcjeiogdmabGreatDoor
