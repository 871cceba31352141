/-
  DERIVED. GIVEN WITH THE SEED: THE CARDS: each row of YtibaeafmgncjdaaGreatDoorRows.lean that lists a variable, with what it lists TIED to the program's text (the seventh form; the later family's looks); each row that meets fmt, with fmt's text TOLD by the authors' own Lean function (tested against real Go, not proved from fmt's source: count such statements apart). THE CARD IS WHAT COUNTS. Prove the row's statement (the work); the ties are given (YtibaeafmgncjdaaGreatDoorTie.lean); close each card by the builder's one call (the guide's Derived/Test/ToyasCard.lean, 'card_holds'). Laid BY PROGRAM, IN A SANDBOX (cutbox-door.mjs). By AI agents, Wed Nov 11 2026. No macro, syntax, notation, axiom, sorry.
-/
import Derived.Test.YtibaeafmgncjdaaGreatDoorRows
import GoSem.ClaimSeven
namespace Go.Proofs.YtibaeafmgncjdaaGreatDoor
namespace Rows

/-- THE TIED CARD OF 'laws.FnFixCmp'. -/
def fnFixCmpCard : Claim7 := { stood := { row := fnFixCmpRow, standIns := [], harness := (true, "39398028996d8ca1925910d2126e96efcc9d2a05addc66f6898fe652e70d986b"), looks := false }, kinds := [], alts := [], laidByText := true, laidKinds := [.data, .data, .data, .data, .data, .data, .data, .sentinel, .sentinel, .data], laidTests := true, laidLooks := .later }
def FnFixCmpCardSaid : Prop := Claim7.holds Tryz.pinned (.plain (OpenSpec.ofChange fnFixCmpSpec)) fnFixCmpCard

/-- THE TIED CARD OF 'laws.FnFixMul'. -/
def fnFixMulCard : Claim7 := { stood := { row := fnFixMulRow, standIns := [], harness := (true, "39398028996d8ca1925910d2126e96efcc9d2a05addc66f6898fe652e70d986b"), looks := false }, kinds := [], alts := [], laidByText := true, laidKinds := [.data, .data, .data, .data, .data, .data, .data, .sentinel, .sentinel, .data], laidTests := true, laidLooks := .later }
def FnFixMulCardSaid : Prop := Claim7.holds Tryz.pinned (.plain (OpenSpec.ofChange fnFixMulSpec)) fnFixMulCard

/-- THE TIED CARD OF 'laws.FnFixAdd'. -/
def fnFixAddCard : Claim7 := { stood := { row := fnFixAddRow, standIns := [], harness := (true, "39398028996d8ca1925910d2126e96efcc9d2a05addc66f6898fe652e70d986b"), looks := false }, kinds := [], alts := [], laidByText := true, laidKinds := [.data, .data, .data, .data, .data, .data, .data, .sentinel, .sentinel, .data], laidTests := true, laidLooks := .later }
def FnFixAddCardSaid : Prop := Claim7.holds Tryz.pinned (.plain (OpenSpec.ofChange fnFixAddSpec)) fnFixAddCard

/-- THE TIED CARD OF 'laws.FnFixAddBig'. -/
def fnFixAddBigCard : Claim7 := { stood := { row := fnFixAddBigRow, standIns := [], harness := (true, "39398028996d8ca1925910d2126e96efcc9d2a05addc66f6898fe652e70d986b"), looks := false }, kinds := [], alts := [], laidByText := true, laidKinds := [.data, .data, .data, .data, .data, .data, .data, .sentinel, .sentinel, .data], laidTests := true, laidLooks := .later }
def FnFixAddBigCardSaid : Prop := Claim7.holds Tryz.pinned (.plain (OpenSpec.ofChange fnFixAddBigSpec)) fnFixAddBigCard

/-- THE TIED CARD OF 'laws.FnFixAddSmall'. -/
def fnFixAddSmallCard : Claim7 := { stood := { row := fnFixAddSmallRow, standIns := [], harness := (true, "39398028996d8ca1925910d2126e96efcc9d2a05addc66f6898fe652e70d986b"), looks := false }, kinds := [], alts := [], laidByText := true, laidKinds := [.data, .data, .data, .data, .data, .data, .data, .sentinel, .sentinel, .data], laidTests := true, laidLooks := .later }
def FnFixAddSmallCardSaid : Prop := Claim7.holds Tryz.pinned (.plain (OpenSpec.ofChange fnFixAddSmallSpec)) fnFixAddSmallCard

/-- THE TIED CARD OF 'laws.FnFixMulSmall'. -/
def fnFixMulSmallCard : Claim7 := { stood := { row := fnFixMulSmallRow, standIns := [], harness := (true, "39398028996d8ca1925910d2126e96efcc9d2a05addc66f6898fe652e70d986b"), looks := false }, kinds := [], alts := [], laidByText := true, laidKinds := [.data, .data, .data, .data, .data, .data, .data, .sentinel, .sentinel, .data], laidTests := true, laidLooks := .later }
def FnFixMulSmallCardSaid : Prop := Claim7.holds Tryz.pinned (.plain (OpenSpec.ofChange fnFixMulSmallSpec)) fnFixMulSmallCard

/-- THE TIED CARD OF 'laws.FnFixMulBig'. -/
def fnFixMulBigCard : Claim7 := { stood := { row := fnFixMulBigRow, standIns := [], harness := (true, "39398028996d8ca1925910d2126e96efcc9d2a05addc66f6898fe652e70d986b"), looks := false }, kinds := [], alts := [], laidByText := true, laidKinds := [.data, .data, .data, .data, .data, .data, .data, .sentinel, .sentinel, .data], laidTests := true, laidLooks := .later }
def FnFixMulBigCardSaid : Prop := Claim7.holds Tryz.pinned (.plain (OpenSpec.ofChange fnFixMulBigSpec)) fnFixMulBigCard

/-- THE TIED CARD OF 'laws.FnFixCmpBig'. -/
def fnFixCmpBigCard : Claim7 := { stood := { row := fnFixCmpBigRow, standIns := [], harness := (true, "39398028996d8ca1925910d2126e96efcc9d2a05addc66f6898fe652e70d986b"), looks := false }, kinds := [], alts := [], laidByText := true, laidKinds := [.data, .data, .data, .data, .data, .data, .data, .sentinel, .sentinel, .data], laidTests := true, laidLooks := .later }
def FnFixCmpBigCardSaid : Prop := Claim7.holds Tryz.pinned (.plain (OpenSpec.ofChange fnFixCmpBigSpec)) fnFixCmpBigCard

/-- THE TIED CARD OF 'laws.FnFixClamp'. -/
def fnFixClampCard : Claim7 := { stood := { row := fnFixClampRow, standIns := [], harness := (true, "39398028996d8ca1925910d2126e96efcc9d2a05addc66f6898fe652e70d986b"), looks := false }, kinds := [], alts := [], laidByText := true, laidKinds := [.data, .data, .data, .data, .data, .data, .data, .sentinel, .sentinel, .data], laidTests := true, laidLooks := .later }
def FnFixClampCardSaid : Prop := Claim7.holds Tryz.pinned (.plain (OpenSpec.ofChange fnFixClampSpec)) fnFixClampCard

/-- THE TIED CARD OF 'laws.FnFixEnds'. -/
def fnFixEndsCard : Claim7 := { stood := { row := fnFixEndsRow, standIns := [], harness := (true, "39398028996d8ca1925910d2126e96efcc9d2a05addc66f6898fe652e70d986b"), looks := false }, kinds := [], alts := [], laidByText := true, laidKinds := [.data, .data, .data, .data, .data, .data, .data, .sentinel, .sentinel, .data], laidTests := true, laidLooks := .later }
def FnFixEndsCardSaid : Prop := Claim7.holds Tryz.pinned (.plain (OpenSpec.ofChange fnFixEndsSpec)) fnFixEndsCard

/-- THE SECOND FORM's CARD OF 'laws.FnFixCmp'. -/
def fnFixCmpUptoCard : Claim7 := { stood := { row := fnFixCmpUptoRow, standIns := [], harness := (true, "39398028996d8ca1925910d2126e96efcc9d2a05addc66f6898fe652e70d986b"), looks := false }, kinds := [], alts := [], laidByText := true, laidKinds := [.data, .data, .data, .data, .data, .data, .data, .sentinel, .sentinel, .data], laidTests := true, laidLooks := .later }
def FnFixCmpUptoCardSaid : Prop := Claim7.holds Tryz.pinned (.plain (OpenSpec.upto fnFixCmpSpec)) fnFixCmpUptoCard

/-- THE SECOND FORM's CARD OF 'laws.FnFixMul'. -/
def fnFixMulUptoCard : Claim7 := { stood := { row := fnFixMulUptoRow, standIns := [], harness := (true, "39398028996d8ca1925910d2126e96efcc9d2a05addc66f6898fe652e70d986b"), looks := false }, kinds := [], alts := [], laidByText := true, laidKinds := [.data, .data, .data, .data, .data, .data, .data, .sentinel, .sentinel, .data], laidTests := true, laidLooks := .later }
def FnFixMulUptoCardSaid : Prop := Claim7.holds Tryz.pinned (.plain (OpenSpec.upto fnFixMulSpec)) fnFixMulUptoCard

/-- THE SECOND FORM's CARD OF 'laws.FnFixAdd'. -/
def fnFixAddUptoCard : Claim7 := { stood := { row := fnFixAddUptoRow, standIns := [], harness := (true, "39398028996d8ca1925910d2126e96efcc9d2a05addc66f6898fe652e70d986b"), looks := false }, kinds := [], alts := [], laidByText := true, laidKinds := [.data, .data, .data, .data, .data, .data, .data, .sentinel, .sentinel, .data], laidTests := true, laidLooks := .later }
def FnFixAddUptoCardSaid : Prop := Claim7.holds Tryz.pinned (.plain (OpenSpec.upto fnFixAddSpec)) fnFixAddUptoCard

/-- THE SECOND FORM's CARD OF 'laws.FnFixAddBig'. -/
def fnFixAddBigUptoCard : Claim7 := { stood := { row := fnFixAddBigUptoRow, standIns := [], harness := (true, "39398028996d8ca1925910d2126e96efcc9d2a05addc66f6898fe652e70d986b"), looks := false }, kinds := [], alts := [], laidByText := true, laidKinds := [.data, .data, .data, .data, .data, .data, .data, .sentinel, .sentinel, .data], laidTests := true, laidLooks := .later }
def FnFixAddBigUptoCardSaid : Prop := Claim7.holds Tryz.pinned (.plain (OpenSpec.upto fnFixAddBigSpec)) fnFixAddBigUptoCard

/-- THE SECOND FORM's CARD OF 'laws.FnFixAddSmall'. -/
def fnFixAddSmallUptoCard : Claim7 := { stood := { row := fnFixAddSmallUptoRow, standIns := [], harness := (true, "39398028996d8ca1925910d2126e96efcc9d2a05addc66f6898fe652e70d986b"), looks := false }, kinds := [], alts := [], laidByText := true, laidKinds := [.data, .data, .data, .data, .data, .data, .data, .sentinel, .sentinel, .data], laidTests := true, laidLooks := .later }
def FnFixAddSmallUptoCardSaid : Prop := Claim7.holds Tryz.pinned (.plain (OpenSpec.upto fnFixAddSmallSpec)) fnFixAddSmallUptoCard

/-- THE SECOND FORM's CARD OF 'laws.FnFixMulSmall'. -/
def fnFixMulSmallUptoCard : Claim7 := { stood := { row := fnFixMulSmallUptoRow, standIns := [], harness := (true, "39398028996d8ca1925910d2126e96efcc9d2a05addc66f6898fe652e70d986b"), looks := false }, kinds := [], alts := [], laidByText := true, laidKinds := [.data, .data, .data, .data, .data, .data, .data, .sentinel, .sentinel, .data], laidTests := true, laidLooks := .later }
def FnFixMulSmallUptoCardSaid : Prop := Claim7.holds Tryz.pinned (.plain (OpenSpec.upto fnFixMulSmallSpec)) fnFixMulSmallUptoCard

/-- THE SECOND FORM's CARD OF 'laws.FnFixMulBig'. -/
def fnFixMulBigUptoCard : Claim7 := { stood := { row := fnFixMulBigUptoRow, standIns := [], harness := (true, "39398028996d8ca1925910d2126e96efcc9d2a05addc66f6898fe652e70d986b"), looks := false }, kinds := [], alts := [], laidByText := true, laidKinds := [.data, .data, .data, .data, .data, .data, .data, .sentinel, .sentinel, .data], laidTests := true, laidLooks := .later }
def FnFixMulBigUptoCardSaid : Prop := Claim7.holds Tryz.pinned (.plain (OpenSpec.upto fnFixMulBigSpec)) fnFixMulBigUptoCard

/-- THE SECOND FORM's CARD OF 'laws.FnFixCmpBig'. -/
def fnFixCmpBigUptoCard : Claim7 := { stood := { row := fnFixCmpBigUptoRow, standIns := [], harness := (true, "39398028996d8ca1925910d2126e96efcc9d2a05addc66f6898fe652e70d986b"), looks := false }, kinds := [], alts := [], laidByText := true, laidKinds := [.data, .data, .data, .data, .data, .data, .data, .sentinel, .sentinel, .data], laidTests := true, laidLooks := .later }
def FnFixCmpBigUptoCardSaid : Prop := Claim7.holds Tryz.pinned (.plain (OpenSpec.upto fnFixCmpBigSpec)) fnFixCmpBigUptoCard

/-- THE SECOND FORM's CARD OF 'laws.FnFixClamp'. -/
def fnFixClampUptoCard : Claim7 := { stood := { row := fnFixClampUptoRow, standIns := [], harness := (true, "39398028996d8ca1925910d2126e96efcc9d2a05addc66f6898fe652e70d986b"), looks := false }, kinds := [], alts := [], laidByText := true, laidKinds := [.data, .data, .data, .data, .data, .data, .data, .sentinel, .sentinel, .data], laidTests := true, laidLooks := .later }
def FnFixClampUptoCardSaid : Prop := Claim7.holds Tryz.pinned (.plain (OpenSpec.upto fnFixClampSpec)) fnFixClampUptoCard

/-- THE SECOND FORM's CARD OF 'laws.FnFixEnds'. -/
def fnFixEndsUptoCard : Claim7 := { stood := { row := fnFixEndsUptoRow, standIns := [], harness := (true, "39398028996d8ca1925910d2126e96efcc9d2a05addc66f6898fe652e70d986b"), looks := false }, kinds := [], alts := [], laidByText := true, laidKinds := [.data, .data, .data, .data, .data, .data, .data, .sentinel, .sentinel, .data], laidTests := true, laidLooks := .later }
def FnFixEndsUptoCardSaid : Prop := Claim7.holds Tryz.pinned (.plain (OpenSpec.upto fnFixEndsSpec)) fnFixEndsUptoCard
end Rows
end Go.Proofs.YtibaeafmgncjdaaGreatDoor
