/-
  DERIVED. GIVEN WITH THE SEED: THE CARDS: each row of YtecadiflbfpofaaGreatDoorRows.lean that lists a variable, with what it lists TIED to the program's text (the seventh form; the later family's looks); each row that meets fmt, with fmt's text TOLD by the authors' own Lean function (tested against real Go, not proved from fmt's source: count such statements apart). THE CARD IS WHAT COUNTS. Prove the row's statement (the work); the ties are given (YtecadiflbfpofaaGreatDoorTie.lean); close each card by the builder's one call (the guide's Derived/Test/ToyasCard.lean, 'card_holds'). Laid BY PROGRAM, IN A SANDBOX (cutbox-door.mjs). By AI agents, Wed Nov 11 2026. No macro, syntax, notation, axiom, sorry.
-/
import Derived.Test.YtecadiflbfpofaaGreatDoorRows
import GoSem.ClaimSeven
namespace Go.Proofs.YtecadiflbfpofaaGreatDoor
namespace Rows

/-- THE TIED CARD OF 'laws.FnFixCmp'. -/
def fnFixCmpCard : Claim7 := { stood := { row := fnFixCmpRow, standIns := [], harness := (true, "1887d7fa97a6aae155e19a3ff8c50e189aca756f271d6ab02a88546a2cd64811"), looks := false }, kinds := [], alts := [], laidByText := true, laidKinds := [.data, .data, .data, .data, .data, .data, .data, .sentinel, .sentinel, .data], laidTests := true, laidLooks := .later }
def FnFixCmpCardSaid : Prop := Claim7.holds Tryz.pinned (.plain (OpenSpec.ofChange fnFixCmpSpec)) fnFixCmpCard

/-- THE TIED CARD OF 'laws.FnFintQuo'. -/
def fnFintQuoCard : Claim7 := { stood := { row := fnFintQuoRow, standIns := [], harness := (true, "1887d7fa97a6aae155e19a3ff8c50e189aca756f271d6ab02a88546a2cd64811"), looks := false }, kinds := [], alts := [], laidByText := true, laidKinds := [.data, .data, .data, .data, .data, .data, .data, .sentinel, .sentinel, .data], laidTests := true, laidLooks := .later }
def FnFintQuoCardSaid : Prop := Claim7.holds Tryz.pinned (.plain (OpenSpec.ofChange fnFintQuoSpec)) fnFintQuoCard

/-- THE TIED CARD OF 'laws.FnFixCmpBig'. -/
def fnFixCmpBigCard : Claim7 := { stood := { row := fnFixCmpBigRow, standIns := [], harness := (true, "1887d7fa97a6aae155e19a3ff8c50e189aca756f271d6ab02a88546a2cd64811"), looks := false }, kinds := [], alts := [], laidByText := true, laidKinds := [.data, .data, .data, .data, .data, .data, .data, .sentinel, .sentinel, .data], laidTests := true, laidLooks := .later }
def FnFixCmpBigCardSaid : Prop := Claim7.holds Tryz.pinned (.plain (OpenSpec.ofChange fnFixCmpBigSpec)) fnFixCmpBigCard

/-- THE TIED CARD OF 'laws.FnFixCmpTotal'. -/
def fnFixCmpTotalCard : Claim7 := { stood := { row := fnFixCmpTotalRow, standIns := [], harness := (true, "1887d7fa97a6aae155e19a3ff8c50e189aca756f271d6ab02a88546a2cd64811"), looks := false }, kinds := [], alts := [], laidByText := true, laidKinds := [.data, .data, .data, .data, .data, .data, .data, .sentinel, .sentinel, .data], laidTests := true, laidLooks := .later }
def FnFixCmpTotalCardSaid : Prop := Claim7.holds Tryz.pinned (.plain (OpenSpec.ofChange fnFixCmpTotalSpec)) fnFixCmpTotalCard

/-- THE TIED CARD OF 'laws.FnFixClamp'. -/
def fnFixClampCard : Claim7 := { stood := { row := fnFixClampRow, standIns := [], harness := (true, "1887d7fa97a6aae155e19a3ff8c50e189aca756f271d6ab02a88546a2cd64811"), looks := false }, kinds := [], alts := [], laidByText := true, laidKinds := [.data, .data, .data, .data, .data, .data, .data, .sentinel, .sentinel, .data], laidTests := true, laidLooks := .later }
def FnFixClampCardSaid : Prop := Claim7.holds Tryz.pinned (.plain (OpenSpec.ofChange fnFixClampSpec)) fnFixClampCard

/-- THE TIED CARD OF 'laws.FnFixEnds'. -/
def fnFixEndsCard : Claim7 := { stood := { row := fnFixEndsRow, standIns := [], harness := (true, "1887d7fa97a6aae155e19a3ff8c50e189aca756f271d6ab02a88546a2cd64811"), looks := false }, kinds := [], alts := [], laidByText := true, laidKinds := [.data, .data, .data, .data, .data, .data, .data, .sentinel, .sentinel, .data], laidTests := true, laidLooks := .later }
def FnFixEndsCardSaid : Prop := Claim7.holds Tryz.pinned (.plain (OpenSpec.ofChange fnFixEndsSpec)) fnFixEndsCard

/-- THE SECOND FORM's CARD OF 'laws.FnFixCmp'. -/
def fnFixCmpUptoCard : Claim7 := { stood := { row := fnFixCmpUptoRow, standIns := [], harness := (true, "1887d7fa97a6aae155e19a3ff8c50e189aca756f271d6ab02a88546a2cd64811"), looks := false }, kinds := [], alts := [], laidByText := true, laidKinds := [.data, .data, .data, .data, .data, .data, .data, .sentinel, .sentinel, .data], laidTests := true, laidLooks := .later }
def FnFixCmpUptoCardSaid : Prop := Claim7.holds Tryz.pinned (.plain (OpenSpec.upto fnFixCmpSpec)) fnFixCmpUptoCard

/-- THE SECOND FORM's CARD OF 'laws.FnFintQuo'. -/
def fnFintQuoUptoCard : Claim7 := { stood := { row := fnFintQuoUptoRow, standIns := [], harness := (true, "1887d7fa97a6aae155e19a3ff8c50e189aca756f271d6ab02a88546a2cd64811"), looks := false }, kinds := [], alts := [], laidByText := true, laidKinds := [.data, .data, .data, .data, .data, .data, .data, .sentinel, .sentinel, .data], laidTests := true, laidLooks := .later }
def FnFintQuoUptoCardSaid : Prop := Claim7.holds Tryz.pinned (.plain (OpenSpec.upto fnFintQuoSpec)) fnFintQuoUptoCard

/-- THE SECOND FORM's CARD OF 'laws.FnFixCmpBig'. -/
def fnFixCmpBigUptoCard : Claim7 := { stood := { row := fnFixCmpBigUptoRow, standIns := [], harness := (true, "1887d7fa97a6aae155e19a3ff8c50e189aca756f271d6ab02a88546a2cd64811"), looks := false }, kinds := [], alts := [], laidByText := true, laidKinds := [.data, .data, .data, .data, .data, .data, .data, .sentinel, .sentinel, .data], laidTests := true, laidLooks := .later }
def FnFixCmpBigUptoCardSaid : Prop := Claim7.holds Tryz.pinned (.plain (OpenSpec.upto fnFixCmpBigSpec)) fnFixCmpBigUptoCard

/-- THE SECOND FORM's CARD OF 'laws.FnFixCmpTotal'. -/
def fnFixCmpTotalUptoCard : Claim7 := { stood := { row := fnFixCmpTotalUptoRow, standIns := [], harness := (true, "1887d7fa97a6aae155e19a3ff8c50e189aca756f271d6ab02a88546a2cd64811"), looks := false }, kinds := [], alts := [], laidByText := true, laidKinds := [.data, .data, .data, .data, .data, .data, .data, .sentinel, .sentinel, .data], laidTests := true, laidLooks := .later }
def FnFixCmpTotalUptoCardSaid : Prop := Claim7.holds Tryz.pinned (.plain (OpenSpec.upto fnFixCmpTotalSpec)) fnFixCmpTotalUptoCard

/-- THE SECOND FORM's CARD OF 'laws.FnFixClamp'. -/
def fnFixClampUptoCard : Claim7 := { stood := { row := fnFixClampUptoRow, standIns := [], harness := (true, "1887d7fa97a6aae155e19a3ff8c50e189aca756f271d6ab02a88546a2cd64811"), looks := false }, kinds := [], alts := [], laidByText := true, laidKinds := [.data, .data, .data, .data, .data, .data, .data, .sentinel, .sentinel, .data], laidTests := true, laidLooks := .later }
def FnFixClampUptoCardSaid : Prop := Claim7.holds Tryz.pinned (.plain (OpenSpec.upto fnFixClampSpec)) fnFixClampUptoCard

/-- THE SECOND FORM's CARD OF 'laws.FnFixEnds'. -/
def fnFixEndsUptoCard : Claim7 := { stood := { row := fnFixEndsUptoRow, standIns := [], harness := (true, "1887d7fa97a6aae155e19a3ff8c50e189aca756f271d6ab02a88546a2cd64811"), looks := false }, kinds := [], alts := [], laidByText := true, laidKinds := [.data, .data, .data, .data, .data, .data, .data, .sentinel, .sentinel, .data], laidTests := true, laidLooks := .later }
def FnFixEndsUptoCardSaid : Prop := Claim7.holds Tryz.pinned (.plain (OpenSpec.upto fnFixEndsSpec)) fnFixEndsUptoCard
end Rows
end Go.Proofs.YtecadiflbfpofaaGreatDoor
