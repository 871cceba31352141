/-
  DERIVED. GIVEN WITH THE SEED: THE CARDS: each row of YthemaneoighaoaaGreatDoorRows.lean that lists a variable, with what it lists TIED to the program's text (the seventh form; the later family's looks); each row that meets fmt, with fmt's text TOLD by the authors' own Lean function (tested against real Go, not proved from fmt's source: count such statements apart). THE CARD IS WHAT COUNTS. Prove the row's statement (the work); the ties are given (YthemaneoighaoaaGreatDoorTie.lean); close each card by the builder's one call (the guide's Derived/Test/ToyasCard.lean, 'card_holds'). Laid BY PROGRAM, IN A SANDBOX (cutbox-door.mjs). By AI agents, Wed Nov 11 2026. No macro, syntax, notation, axiom, sorry.
-/
import Derived.Test.YthemaneoighaoaaGreatDoorRows
import GoSem.ClaimSeven
namespace Go.Proofs.YthemaneoighaoaaGreatDoor
namespace Rows

/-- THE TIED CARD OF 'laws.FnFixSigns'. -/
def fnFixSignsCard : Claim7 := { stood := { row := fnFixSignsRow, standIns := [], harness := (true, "0b98e239ee468f8dc86211897d811d47badc4af2e2f4ee421edccd4971a9f051"), looks := false }, kinds := [], alts := [], laidByText := true, laidKinds := [.data, .data, .data, .data, .data, .data, .data, .sentinel, .sentinel, .data], laidTests := true, laidLooks := .later }
def FnFixSignsCardSaid : Prop := Claim7.holds Tryz.pinned (.plain (OpenSpec.ofChange fnFixSignsSpec)) fnFixSignsCard

/-- THE TIED CARD OF 'laws.FnFixMinScale'. -/
def fnFixMinScaleCard : Claim7 := { stood := { row := fnFixMinScaleRow, standIns := [], harness := (true, "0b98e239ee468f8dc86211897d811d47badc4af2e2f4ee421edccd4971a9f051"), looks := false }, kinds := [], alts := [], laidByText := true, laidKinds := [.data, .data, .data, .data, .data, .data, .data, .sentinel, .sentinel, .data], laidTests := true, laidLooks := .later }
def FnFixMinScaleCardSaid : Prop := Claim7.holds Tryz.pinned (.plain (OpenSpec.ofChange fnFixMinScaleSpec)) fnFixMinScaleCard

/-- THE TIED CARD OF 'laws.FnFixKinds'. -/
def fnFixKindsCard : Claim7 := { stood := { row := fnFixKindsRow, standIns := [], harness := (true, "0b98e239ee468f8dc86211897d811d47badc4af2e2f4ee421edccd4971a9f051"), looks := false }, kinds := [], alts := [], laidByText := true, laidKinds := [.data, .data, .data, .data, .data, .data, .data, .sentinel, .sentinel, .data], laidTests := true, laidLooks := .later }
def FnFixKindsCardSaid : Prop := Claim7.holds Tryz.pinned (.plain (OpenSpec.ofChange fnFixKindsSpec)) fnFixKindsCard

/-- THE SECOND FORM's CARD OF 'laws.FnFixSigns'. -/
def fnFixSignsUptoCard : Claim7 := { stood := { row := fnFixSignsUptoRow, standIns := [], harness := (true, "0b98e239ee468f8dc86211897d811d47badc4af2e2f4ee421edccd4971a9f051"), looks := false }, kinds := [], alts := [], laidByText := true, laidKinds := [.data, .data, .data, .data, .data, .data, .data, .sentinel, .sentinel, .data], laidTests := true, laidLooks := .later }
def FnFixSignsUptoCardSaid : Prop := Claim7.holds Tryz.pinned (.plain (OpenSpec.upto fnFixSignsSpec)) fnFixSignsUptoCard

/-- THE SECOND FORM's CARD OF 'laws.FnFixMinScale'. -/
def fnFixMinScaleUptoCard : Claim7 := { stood := { row := fnFixMinScaleUptoRow, standIns := [], harness := (true, "0b98e239ee468f8dc86211897d811d47badc4af2e2f4ee421edccd4971a9f051"), looks := false }, kinds := [], alts := [], laidByText := true, laidKinds := [.data, .data, .data, .data, .data, .data, .data, .sentinel, .sentinel, .data], laidTests := true, laidLooks := .later }
def FnFixMinScaleUptoCardSaid : Prop := Claim7.holds Tryz.pinned (.plain (OpenSpec.upto fnFixMinScaleSpec)) fnFixMinScaleUptoCard

/-- THE SECOND FORM's CARD OF 'laws.FnFixKinds'. -/
def fnFixKindsUptoCard : Claim7 := { stood := { row := fnFixKindsUptoRow, standIns := [], harness := (true, "0b98e239ee468f8dc86211897d811d47badc4af2e2f4ee421edccd4971a9f051"), looks := false }, kinds := [], alts := [], laidByText := true, laidKinds := [.data, .data, .data, .data, .data, .data, .data, .sentinel, .sentinel, .data], laidTests := true, laidLooks := .later }
def FnFixKindsUptoCardSaid : Prop := Claim7.holds Tryz.pinned (.plain (OpenSpec.upto fnFixKindsSpec)) fnFixKindsUptoCard
end Rows
end Go.Proofs.YthemaneoighaoaaGreatDoor
