/-
  DERIVED. GIVEN WITH THE SEED: THE CARDS: each row of YtmgidnjpkbgmgabGreatDoorRows.lean that lists a variable, with what it lists TIED to the program's text (the seventh form; the later family's looks); each row that meets fmt, with fmt's text TOLD by the authors' own Lean function (tested against real Go, not proved from fmt's source: count such statements apart). THE CARD IS WHAT COUNTS. Prove the row's statement (the work); the ties are given (YtmgidnjpkbgmgabGreatDoorTie.lean); close each card by the builder's one call (the guide's Derived/Test/ToyasCard.lean, 'card_holds'). Laid BY PROGRAM, IN A SANDBOX (cutbox-door.mjs). By AI agents, Wed Nov 11 2026. No macro, syntax, notation, axiom, sorry.
-/
import Derived.Test.YtmgidnjpkbgmgabGreatDoorRows
import GoSem.ClaimSeven
namespace Go.Proofs.YtmgidnjpkbgmgabGreatDoor
namespace Rows

/-- THE TIED CARD OF 'laws.FnFixQuoRemBig'. -/
def fnFixQuoRemBigCard : Claim7 := { stood := { row := fnFixQuoRemBigRow, standIns := [], harness := (true, "2ce3bda9f7d84876ec55e9a91cfa1e72ade97cf4e7b9c4f891e29c0f34653e69"), looks := false }, kinds := [], alts := [], laidByText := true, laidKinds := [.data, .data, .data, .data, .data, .data, .data, .sentinel, .sentinel, .data], laidTests := true, laidLooks := .later }
def FnFixQuoRemBigCardSaid : Prop := Claim7.holds Tryz.pinned (.plain (OpenSpec.ofChange fnFixQuoRemBigSpec)) fnFixQuoRemBigCard

/-- THE TIED CARD OF 'laws.FnFixSumBig'. -/
def fnFixSumBigCard : Claim7 := { stood := { row := fnFixSumBigRow, standIns := [], harness := (true, "2ce3bda9f7d84876ec55e9a91cfa1e72ade97cf4e7b9c4f891e29c0f34653e69"), looks := false }, kinds := [], alts := [], laidByText := true, laidKinds := [.data, .data, .data, .data, .data, .data, .data, .sentinel, .sentinel, .data], laidTests := true, laidLooks := .later }
def FnFixSumBigCardSaid : Prop := Claim7.holds Tryz.pinned (.plain (OpenSpec.ofChange fnFixSumBigSpec)) fnFixSumBigCard

/-- THE TIED CARD OF 'laws.FnFixSqrt'. -/
def fnFixSqrtCard : Claim7 := { stood := { row := fnFixSqrtRow, standIns := [], harness := (true, "2ce3bda9f7d84876ec55e9a91cfa1e72ade97cf4e7b9c4f891e29c0f34653e69"), looks := false }, kinds := [], alts := [], laidByText := true, laidKinds := [.data, .data, .data, .data, .data, .data, .data, .sentinel, .sentinel, .data], laidTests := true, laidLooks := .later }
def FnFixSqrtCardSaid : Prop := Claim7.holds Tryz.pinned (.plain (OpenSpec.ofChange fnFixSqrtSpec)) fnFixSqrtCard

/-- THE TIED CARD OF 'laws.FnFixQuoRem'. -/
def fnFixQuoRemCard : Claim7 := { stood := { row := fnFixQuoRemRow, standIns := [], harness := (true, "2ce3bda9f7d84876ec55e9a91cfa1e72ade97cf4e7b9c4f891e29c0f34653e69"), looks := false }, kinds := [], alts := [], laidByText := true, laidKinds := [.data, .data, .data, .data, .data, .data, .data, .sentinel, .sentinel, .sentinel, .data], laidTests := true, laidLooks := .later }
def FnFixQuoRemCardSaid : Prop := Claim7.holds Tryz.pinned (.plain (OpenSpec.ofChange fnFixQuoRemSpec)) fnFixQuoRemCard

/-- THE TIED CARD OF 'laws.FnFixQuoBig'. -/
def fnFixQuoBigCard : Claim7 := { stood := { row := fnFixQuoBigRow, standIns := [], harness := (true, "2ce3bda9f7d84876ec55e9a91cfa1e72ade97cf4e7b9c4f891e29c0f34653e69"), looks := false }, kinds := [], alts := [], laidByText := true, laidKinds := [.data, .data, .data, .data, .data, .data, .data, .sentinel, .sentinel, .data], laidTests := true, laidLooks := .later }
def FnFixQuoBigCardSaid : Prop := Claim7.holds Tryz.pinned (.plain (OpenSpec.ofChange fnFixQuoBigSpec)) fnFixQuoBigCard

/-- THE TIED CARD OF 'laws.FnFixQuo'. -/
def fnFixQuoCard : Claim7 := { stood := { row := fnFixQuoRow, standIns := [], harness := (true, "2ce3bda9f7d84876ec55e9a91cfa1e72ade97cf4e7b9c4f891e29c0f34653e69"), looks := false }, kinds := [], alts := [], laidByText := true, laidKinds := [.data, .data, .data, .data, .data, .data, .data, .sentinel, .sentinel, .sentinel, .data], laidTests := true, laidLooks := .later }
def FnFixQuoCardSaid : Prop := Claim7.holds Tryz.pinned (.plain (OpenSpec.ofChange fnFixQuoSpec)) fnFixQuoCard

/-- THE TIED CARD OF 'laws.FnFixInv'. -/
def fnFixInvCard : Claim7 := { stood := { row := fnFixInvRow, standIns := [], harness := (true, "2ce3bda9f7d84876ec55e9a91cfa1e72ade97cf4e7b9c4f891e29c0f34653e69"), looks := false }, kinds := [], alts := [], laidByText := true, laidKinds := [.data, .data, .data, .data, .data, .data, .data, .sentinel, .sentinel, .sentinel, .data], laidTests := true, laidLooks := .later }
def FnFixInvCardSaid : Prop := Claim7.holds Tryz.pinned (.plain (OpenSpec.ofChange fnFixInvSpec)) fnFixInvCard

/-- THE SECOND FORM's CARD OF 'laws.FnFixQuoRemBig'. -/
def fnFixQuoRemBigUptoCard : Claim7 := { stood := { row := fnFixQuoRemBigUptoRow, standIns := [], harness := (true, "2ce3bda9f7d84876ec55e9a91cfa1e72ade97cf4e7b9c4f891e29c0f34653e69"), looks := false }, kinds := [], alts := [], laidByText := true, laidKinds := [.data, .data, .data, .data, .data, .data, .data, .sentinel, .sentinel, .data], laidTests := true, laidLooks := .later }
def FnFixQuoRemBigUptoCardSaid : Prop := Claim7.holds Tryz.pinned (.plain (OpenSpec.upto fnFixQuoRemBigSpec)) fnFixQuoRemBigUptoCard

/-- THE SECOND FORM's CARD OF 'laws.FnFixSumBig'. -/
def fnFixSumBigUptoCard : Claim7 := { stood := { row := fnFixSumBigUptoRow, standIns := [], harness := (true, "2ce3bda9f7d84876ec55e9a91cfa1e72ade97cf4e7b9c4f891e29c0f34653e69"), looks := false }, kinds := [], alts := [], laidByText := true, laidKinds := [.data, .data, .data, .data, .data, .data, .data, .sentinel, .sentinel, .data], laidTests := true, laidLooks := .later }
def FnFixSumBigUptoCardSaid : Prop := Claim7.holds Tryz.pinned (.plain (OpenSpec.upto fnFixSumBigSpec)) fnFixSumBigUptoCard

/-- THE SECOND FORM's CARD OF 'laws.FnFixSqrt'. -/
def fnFixSqrtUptoCard : Claim7 := { stood := { row := fnFixSqrtUptoRow, standIns := [], harness := (true, "2ce3bda9f7d84876ec55e9a91cfa1e72ade97cf4e7b9c4f891e29c0f34653e69"), looks := false }, kinds := [], alts := [], laidByText := true, laidKinds := [.data, .data, .data, .data, .data, .data, .data, .sentinel, .sentinel, .data], laidTests := true, laidLooks := .later }
def FnFixSqrtUptoCardSaid : Prop := Claim7.holds Tryz.pinned (.plain (OpenSpec.upto fnFixSqrtSpec)) fnFixSqrtUptoCard

/-- THE SECOND FORM's CARD OF 'laws.FnFixQuoRem'. -/
def fnFixQuoRemUptoCard : Claim7 := { stood := { row := fnFixQuoRemUptoRow, standIns := [], harness := (true, "2ce3bda9f7d84876ec55e9a91cfa1e72ade97cf4e7b9c4f891e29c0f34653e69"), looks := false }, kinds := [], alts := [], laidByText := true, laidKinds := [.data, .data, .data, .data, .data, .data, .data, .sentinel, .sentinel, .sentinel, .data], laidTests := true, laidLooks := .later }
def FnFixQuoRemUptoCardSaid : Prop := Claim7.holds Tryz.pinned (.plain (OpenSpec.upto fnFixQuoRemSpec)) fnFixQuoRemUptoCard

/-- THE SECOND FORM's CARD OF 'laws.FnFixQuoBig'. -/
def fnFixQuoBigUptoCard : Claim7 := { stood := { row := fnFixQuoBigUptoRow, standIns := [], harness := (true, "2ce3bda9f7d84876ec55e9a91cfa1e72ade97cf4e7b9c4f891e29c0f34653e69"), looks := false }, kinds := [], alts := [], laidByText := true, laidKinds := [.data, .data, .data, .data, .data, .data, .data, .sentinel, .sentinel, .data], laidTests := true, laidLooks := .later }
def FnFixQuoBigUptoCardSaid : Prop := Claim7.holds Tryz.pinned (.plain (OpenSpec.upto fnFixQuoBigSpec)) fnFixQuoBigUptoCard

/-- THE SECOND FORM's CARD OF 'laws.FnFixQuo'. -/
def fnFixQuoUptoCard : Claim7 := { stood := { row := fnFixQuoUptoRow, standIns := [], harness := (true, "2ce3bda9f7d84876ec55e9a91cfa1e72ade97cf4e7b9c4f891e29c0f34653e69"), looks := false }, kinds := [], alts := [], laidByText := true, laidKinds := [.data, .data, .data, .data, .data, .data, .data, .sentinel, .sentinel, .sentinel, .data], laidTests := true, laidLooks := .later }
def FnFixQuoUptoCardSaid : Prop := Claim7.holds Tryz.pinned (.plain (OpenSpec.upto fnFixQuoSpec)) fnFixQuoUptoCard

/-- THE SECOND FORM's CARD OF 'laws.FnFixInv'. -/
def fnFixInvUptoCard : Claim7 := { stood := { row := fnFixInvUptoRow, standIns := [], harness := (true, "2ce3bda9f7d84876ec55e9a91cfa1e72ade97cf4e7b9c4f891e29c0f34653e69"), looks := false }, kinds := [], alts := [], laidByText := true, laidKinds := [.data, .data, .data, .data, .data, .data, .data, .sentinel, .sentinel, .sentinel, .data], laidTests := true, laidLooks := .later }
def FnFixInvUptoCardSaid : Prop := Claim7.holds Tryz.pinned (.plain (OpenSpec.upto fnFixInvSpec)) fnFixInvUptoCard
end Rows
end Go.Proofs.YtmgidnjpkbgmgabGreatDoor
