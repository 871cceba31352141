/-
  DERIVED. GIVEN WITH THE SEED: THE CARDS: each row of YtjjolcjeiogdmaaGreatDoorRows.lean that lists a variable, with what it lists TIED to the program's text (the seventh form; the later family's looks); each row that meets fmt, with fmt's text TOLD by the authors' own Lean function (tested against real Go, not proved from fmt's source: count such statements apart). THE CARD IS WHAT COUNTS. Prove the row's statement (the work); the ties are given (YtjjolcjeiogdmaaGreatDoorTie.lean); close each card by the builder's one call (the guide's Derived/Test/ToyasCard.lean, 'card_holds'). Laid BY PROGRAM, IN A SANDBOX (cutbox-door.mjs). By AI agents, Wed Nov 11 2026. No macro, syntax, notation, axiom, sorry.
-/
import Derived.Test.YtjjolcjeiogdmaaGreatDoorRows
import GoSem.ClaimSeven
namespace Go.Proofs.YtjjolcjeiogdmaaGreatDoor
namespace Rows

/-- THE TIED CARD OF 'laws.FnDecCmp'. -/
def fnDecCmpCard : Claim7 := { stood := { row := fnDecCmpRow, standIns := [], harness := (true, "9a1753437dbf866021d1cdd39dca6d1d7f1536564d1d160f4acb1ea86ddaa806"), looks := false }, kinds := [], alts := [], laidByText := true, laidKinds := [.data, .data, .data, .data, .data, .data], laidTests := true, laidLooks := .later }
def FnDecCmpCardSaid : Prop := Claim7.holds Tryz.pinned (.plain (OpenSpec.ofChange fnDecCmpSpec)) fnDecCmpCard

/-- THE TIED CARD OF 'laws.FnDecPair'. -/
def fnDecPairCard : Claim7 := { stood := { row := fnDecPairRow, standIns := [], harness := (true, "9a1753437dbf866021d1cdd39dca6d1d7f1536564d1d160f4acb1ea86ddaa806"), looks := false }, kinds := [], alts := [], laidByText := true, laidKinds := [.data, .data, .data, .data, .data, .data], laidTests := true, laidLooks := .later }
def FnDecPairCardSaid : Prop := Claim7.holds Tryz.pinned (.plain (OpenSpec.ofChange fnDecPairSpec)) fnDecPairCard

/-- THE TIED CARD OF 'laws.FnDecAdd'. -/
def fnDecAddCard : Claim7 := { stood := { row := fnDecAddRow, standIns := [], harness := (true, "9a1753437dbf866021d1cdd39dca6d1d7f1536564d1d160f4acb1ea86ddaa806"), looks := false }, kinds := [], alts := [], laidByText := true, laidKinds := [.data, .data, .data, .data, .data, .data], laidTests := true, laidLooks := .later }
def FnDecAddCardSaid : Prop := Claim7.holds Tryz.pinned (.plain (OpenSpec.ofChange fnDecAddSpec)) fnDecAddCard

/-- THE TIED CARD OF 'laws.FnDecSub'. -/
def fnDecSubCard : Claim7 := { stood := { row := fnDecSubRow, standIns := [], harness := (true, "9a1753437dbf866021d1cdd39dca6d1d7f1536564d1d160f4acb1ea86ddaa806"), looks := false }, kinds := [], alts := [], laidByText := true, laidKinds := [.data, .data, .data, .data, .data, .data], laidTests := true, laidLooks := .later }
def FnDecSubCardSaid : Prop := Claim7.holds Tryz.pinned (.plain (OpenSpec.ofChange fnDecSubSpec)) fnDecSubCard

/-- THE SECOND FORM's CARD OF 'laws.FnDecCmp'. -/
def fnDecCmpUptoCard : Claim7 := { stood := { row := fnDecCmpUptoRow, standIns := [], harness := (true, "9a1753437dbf866021d1cdd39dca6d1d7f1536564d1d160f4acb1ea86ddaa806"), looks := false }, kinds := [], alts := [], laidByText := true, laidKinds := [.data, .data, .data, .data, .data, .data], laidTests := true, laidLooks := .later }
def FnDecCmpUptoCardSaid : Prop := Claim7.holds Tryz.pinned (.plain (OpenSpec.upto fnDecCmpSpec)) fnDecCmpUptoCard

/-- THE SECOND FORM's CARD OF 'laws.FnDecPair'. -/
def fnDecPairUptoCard : Claim7 := { stood := { row := fnDecPairUptoRow, standIns := [], harness := (true, "9a1753437dbf866021d1cdd39dca6d1d7f1536564d1d160f4acb1ea86ddaa806"), looks := false }, kinds := [], alts := [], laidByText := true, laidKinds := [.data, .data, .data, .data, .data, .data], laidTests := true, laidLooks := .later }
def FnDecPairUptoCardSaid : Prop := Claim7.holds Tryz.pinned (.plain (OpenSpec.upto fnDecPairSpec)) fnDecPairUptoCard

/-- THE SECOND FORM's CARD OF 'laws.FnDecAdd'. -/
def fnDecAddUptoCard : Claim7 := { stood := { row := fnDecAddUptoRow, standIns := [], harness := (true, "9a1753437dbf866021d1cdd39dca6d1d7f1536564d1d160f4acb1ea86ddaa806"), looks := false }, kinds := [], alts := [], laidByText := true, laidKinds := [.data, .data, .data, .data, .data, .data], laidTests := true, laidLooks := .later }
def FnDecAddUptoCardSaid : Prop := Claim7.holds Tryz.pinned (.plain (OpenSpec.upto fnDecAddSpec)) fnDecAddUptoCard

/-- THE SECOND FORM's CARD OF 'laws.FnDecSub'. -/
def fnDecSubUptoCard : Claim7 := { stood := { row := fnDecSubUptoRow, standIns := [], harness := (true, "9a1753437dbf866021d1cdd39dca6d1d7f1536564d1d160f4acb1ea86ddaa806"), looks := false }, kinds := [], alts := [], laidByText := true, laidKinds := [.data, .data, .data, .data, .data, .data], laidTests := true, laidLooks := .later }
def FnDecSubUptoCardSaid : Prop := Claim7.holds Tryz.pinned (.plain (OpenSpec.upto fnDecSubSpec)) fnDecSubUptoCard
end Rows
end Go.Proofs.YtjjolcjeiogdmaaGreatDoor
