/-
  DERIVED. GIVEN WITH THE SEED: THE CARDS: each row of YtjdfapoomjeabaaGreatDoorRows.lean that lists a variable, with what it lists TIED to the program's text (the seventh form; the later family's looks); each row that meets fmt, with fmt's text TOLD by the authors' own Lean function (tested against real Go, not proved from fmt's source: count such statements apart). THE CARD IS WHAT COUNTS. Prove the row's statement (the work); the ties are given (YtjdfapoomjeabaaGreatDoorTie.lean); close each card by the builder's one call (the guide's Derived/Test/ToyasCard.lean, 'card_holds'). Laid BY PROGRAM, IN A SANDBOX (cutbox-door.mjs). By AI agents, Wed Nov 11 2026. No macro, syntax, notation, axiom, sorry.
-/
import Derived.Test.YtjdfapoomjeabaaGreatDoorRows
import GoSem.ClaimSeven
namespace Go.Proofs.YtjdfapoomjeabaaGreatDoor
namespace Rows

/-- THE TIED CARD OF 'laws.FnFixMul'. -/
def fnFixMulCard : Claim7 := { stood := { row := fnFixMulRow, standIns := [], harness := (true, "d22b565efc6633411204d8cf9e37e3f503d6841a8b3e25444270bd66996058d5"), looks := false }, kinds := [], alts := [], laidByText := true, laidKinds := [.data, .data, .data, .data, .data, .data, .data, .sentinel, .sentinel, .data], laidTests := true, laidLooks := .later }
def FnFixMulCardSaid : Prop := Claim7.holds Tryz.pinned (.plain (OpenSpec.ofChange fnFixMulSpec)) fnFixMulCard

/-- THE TIED CARD OF 'laws.FnFixAdd'. -/
def fnFixAddCard : Claim7 := { stood := { row := fnFixAddRow, standIns := [], harness := (true, "d22b565efc6633411204d8cf9e37e3f503d6841a8b3e25444270bd66996058d5"), looks := false }, kinds := [], alts := [], laidByText := true, laidKinds := [.data, .data, .data, .data, .data, .data, .data, .sentinel, .sentinel, .data], laidTests := true, laidLooks := .later }
def FnFixAddCardSaid : Prop := Claim7.holds Tryz.pinned (.plain (OpenSpec.ofChange fnFixAddSpec)) fnFixAddCard

/-- THE TIED CARD OF 'laws.FnFixSub'. -/
def fnFixSubCard : Claim7 := { stood := { row := fnFixSubRow, standIns := [], harness := (true, "d22b565efc6633411204d8cf9e37e3f503d6841a8b3e25444270bd66996058d5"), looks := false }, kinds := [], alts := [], laidByText := true, laidKinds := [.data, .data, .data, .data, .data, .data, .data, .sentinel, .sentinel, .data], laidTests := true, laidLooks := .later }
def FnFixSubCardSaid : Prop := Claim7.holds Tryz.pinned (.plain (OpenSpec.ofChange fnFixSubSpec)) fnFixSubCard

/-- THE TIED CARD OF 'laws.FnFixSubAbs'. -/
def fnFixSubAbsCard : Claim7 := { stood := { row := fnFixSubAbsRow, standIns := [], harness := (true, "d22b565efc6633411204d8cf9e37e3f503d6841a8b3e25444270bd66996058d5"), looks := false }, kinds := [], alts := [], laidByText := true, laidKinds := [.data, .data, .data, .data, .data, .data, .data, .sentinel, .sentinel, .data], laidTests := true, laidLooks := .later }
def FnFixSubAbsCardSaid : Prop := Claim7.holds Tryz.pinned (.plain (OpenSpec.ofChange fnFixSubAbsSpec)) fnFixSubAbsCard

/-- THE TIED CARD OF 'laws.FnFixAddExact'. -/
def fnFixAddExactCard : Claim7 := { stood := { row := fnFixAddExactRow, standIns := [], harness := (true, "d22b565efc6633411204d8cf9e37e3f503d6841a8b3e25444270bd66996058d5"), looks := false }, kinds := [], alts := [], laidByText := true, laidKinds := [.data, .data, .data, .data, .data, .data, .data, .sentinel, .sentinel, .data], laidTests := true, laidLooks := .later }
def FnFixAddExactCardSaid : Prop := Claim7.holds Tryz.pinned (.plain (OpenSpec.ofChange fnFixAddExactSpec)) fnFixAddExactCard

/-- THE TIED CARD OF 'laws.FnFixAddMul'. -/
def fnFixAddMulCard : Claim7 := { stood := { row := fnFixAddMulRow, standIns := [], harness := (true, "d22b565efc6633411204d8cf9e37e3f503d6841a8b3e25444270bd66996058d5"), looks := false }, kinds := [], alts := [], laidByText := true, laidKinds := [.data, .data, .data, .data, .data, .data, .data, .sentinel, .sentinel, .data], laidTests := true, laidLooks := .later }
def FnFixAddMulCardSaid : Prop := Claim7.holds Tryz.pinned (.plain (OpenSpec.ofChange fnFixAddMulSpec)) fnFixAddMulCard

/-- THE TIED CARD OF 'laws.FnFixSubMul'. -/
def fnFixSubMulCard : Claim7 := { stood := { row := fnFixSubMulRow, standIns := [], harness := (true, "d22b565efc6633411204d8cf9e37e3f503d6841a8b3e25444270bd66996058d5"), looks := false }, kinds := [], alts := [], laidByText := true, laidKinds := [.data, .data, .data, .data, .data, .data, .data, .sentinel, .sentinel, .data], laidTests := true, laidLooks := .later }
def FnFixSubMulCardSaid : Prop := Claim7.holds Tryz.pinned (.plain (OpenSpec.ofChange fnFixSubMulSpec)) fnFixSubMulCard

/-- THE TIED CARD OF 'laws.FnFixMulBig'. -/
def fnFixMulBigCard : Claim7 := { stood := { row := fnFixMulBigRow, standIns := [], harness := (true, "d22b565efc6633411204d8cf9e37e3f503d6841a8b3e25444270bd66996058d5"), looks := false }, kinds := [], alts := [], laidByText := true, laidKinds := [.data, .data, .data, .data, .data, .data, .data, .sentinel, .sentinel, .data], laidTests := true, laidLooks := .later }
def FnFixMulBigCardSaid : Prop := Claim7.holds Tryz.pinned (.plain (OpenSpec.ofChange fnFixMulBigSpec)) fnFixMulBigCard

/-- THE TIED CARD OF 'laws.FnFixQuo'. -/
def fnFixQuoCard : Claim7 := { stood := { row := fnFixQuoRow, standIns := [], harness := (true, "d22b565efc6633411204d8cf9e37e3f503d6841a8b3e25444270bd66996058d5"), looks := false }, kinds := [], alts := [], laidByText := true, laidKinds := [.data, .data, .data, .data, .data, .data, .data, .sentinel, .sentinel, .sentinel, .data], laidTests := true, laidLooks := .later }
def FnFixQuoCardSaid : Prop := Claim7.holds Tryz.pinned (.plain (OpenSpec.ofChange fnFixQuoSpec)) fnFixQuoCard

/-- THE TIED CARD OF 'laws.FnFixMulExact'. -/
def fnFixMulExactCard : Claim7 := { stood := { row := fnFixMulExactRow, standIns := [], harness := (true, "d22b565efc6633411204d8cf9e37e3f503d6841a8b3e25444270bd66996058d5"), looks := false }, kinds := [], alts := [], laidByText := true, laidKinds := [.data, .data, .data, .data, .data, .data, .data, .sentinel, .sentinel, .data], laidTests := true, laidLooks := .later }
def FnFixMulExactCardSaid : Prop := Claim7.holds Tryz.pinned (.plain (OpenSpec.ofChange fnFixMulExactSpec)) fnFixMulExactCard

/-- THE SECOND FORM's CARD OF 'laws.FnFixMul'. -/
def fnFixMulUptoCard : Claim7 := { stood := { row := fnFixMulUptoRow, standIns := [], harness := (true, "d22b565efc6633411204d8cf9e37e3f503d6841a8b3e25444270bd66996058d5"), looks := false }, kinds := [], alts := [], laidByText := true, laidKinds := [.data, .data, .data, .data, .data, .data, .data, .sentinel, .sentinel, .data], laidTests := true, laidLooks := .later }
def FnFixMulUptoCardSaid : Prop := Claim7.holds Tryz.pinned (.plain (OpenSpec.upto fnFixMulSpec)) fnFixMulUptoCard

/-- THE SECOND FORM's CARD OF 'laws.FnFixAdd'. -/
def fnFixAddUptoCard : Claim7 := { stood := { row := fnFixAddUptoRow, standIns := [], harness := (true, "d22b565efc6633411204d8cf9e37e3f503d6841a8b3e25444270bd66996058d5"), looks := false }, kinds := [], alts := [], laidByText := true, laidKinds := [.data, .data, .data, .data, .data, .data, .data, .sentinel, .sentinel, .data], laidTests := true, laidLooks := .later }
def FnFixAddUptoCardSaid : Prop := Claim7.holds Tryz.pinned (.plain (OpenSpec.upto fnFixAddSpec)) fnFixAddUptoCard

/-- THE SECOND FORM's CARD OF 'laws.FnFixSub'. -/
def fnFixSubUptoCard : Claim7 := { stood := { row := fnFixSubUptoRow, standIns := [], harness := (true, "d22b565efc6633411204d8cf9e37e3f503d6841a8b3e25444270bd66996058d5"), looks := false }, kinds := [], alts := [], laidByText := true, laidKinds := [.data, .data, .data, .data, .data, .data, .data, .sentinel, .sentinel, .data], laidTests := true, laidLooks := .later }
def FnFixSubUptoCardSaid : Prop := Claim7.holds Tryz.pinned (.plain (OpenSpec.upto fnFixSubSpec)) fnFixSubUptoCard

/-- THE SECOND FORM's CARD OF 'laws.FnFixSubAbs'. -/
def fnFixSubAbsUptoCard : Claim7 := { stood := { row := fnFixSubAbsUptoRow, standIns := [], harness := (true, "d22b565efc6633411204d8cf9e37e3f503d6841a8b3e25444270bd66996058d5"), looks := false }, kinds := [], alts := [], laidByText := true, laidKinds := [.data, .data, .data, .data, .data, .data, .data, .sentinel, .sentinel, .data], laidTests := true, laidLooks := .later }
def FnFixSubAbsUptoCardSaid : Prop := Claim7.holds Tryz.pinned (.plain (OpenSpec.upto fnFixSubAbsSpec)) fnFixSubAbsUptoCard

/-- THE SECOND FORM's CARD OF 'laws.FnFixAddExact'. -/
def fnFixAddExactUptoCard : Claim7 := { stood := { row := fnFixAddExactUptoRow, standIns := [], harness := (true, "d22b565efc6633411204d8cf9e37e3f503d6841a8b3e25444270bd66996058d5"), looks := false }, kinds := [], alts := [], laidByText := true, laidKinds := [.data, .data, .data, .data, .data, .data, .data, .sentinel, .sentinel, .data], laidTests := true, laidLooks := .later }
def FnFixAddExactUptoCardSaid : Prop := Claim7.holds Tryz.pinned (.plain (OpenSpec.upto fnFixAddExactSpec)) fnFixAddExactUptoCard

/-- THE SECOND FORM's CARD OF 'laws.FnFixAddMul'. -/
def fnFixAddMulUptoCard : Claim7 := { stood := { row := fnFixAddMulUptoRow, standIns := [], harness := (true, "d22b565efc6633411204d8cf9e37e3f503d6841a8b3e25444270bd66996058d5"), looks := false }, kinds := [], alts := [], laidByText := true, laidKinds := [.data, .data, .data, .data, .data, .data, .data, .sentinel, .sentinel, .data], laidTests := true, laidLooks := .later }
def FnFixAddMulUptoCardSaid : Prop := Claim7.holds Tryz.pinned (.plain (OpenSpec.upto fnFixAddMulSpec)) fnFixAddMulUptoCard

/-- THE SECOND FORM's CARD OF 'laws.FnFixSubMul'. -/
def fnFixSubMulUptoCard : Claim7 := { stood := { row := fnFixSubMulUptoRow, standIns := [], harness := (true, "d22b565efc6633411204d8cf9e37e3f503d6841a8b3e25444270bd66996058d5"), looks := false }, kinds := [], alts := [], laidByText := true, laidKinds := [.data, .data, .data, .data, .data, .data, .data, .sentinel, .sentinel, .data], laidTests := true, laidLooks := .later }
def FnFixSubMulUptoCardSaid : Prop := Claim7.holds Tryz.pinned (.plain (OpenSpec.upto fnFixSubMulSpec)) fnFixSubMulUptoCard

/-- THE SECOND FORM's CARD OF 'laws.FnFixMulBig'. -/
def fnFixMulBigUptoCard : Claim7 := { stood := { row := fnFixMulBigUptoRow, standIns := [], harness := (true, "d22b565efc6633411204d8cf9e37e3f503d6841a8b3e25444270bd66996058d5"), looks := false }, kinds := [], alts := [], laidByText := true, laidKinds := [.data, .data, .data, .data, .data, .data, .data, .sentinel, .sentinel, .data], laidTests := true, laidLooks := .later }
def FnFixMulBigUptoCardSaid : Prop := Claim7.holds Tryz.pinned (.plain (OpenSpec.upto fnFixMulBigSpec)) fnFixMulBigUptoCard

/-- THE SECOND FORM's CARD OF 'laws.FnFixQuo'. -/
def fnFixQuoUptoCard : Claim7 := { stood := { row := fnFixQuoUptoRow, standIns := [], harness := (true, "d22b565efc6633411204d8cf9e37e3f503d6841a8b3e25444270bd66996058d5"), looks := false }, kinds := [], alts := [], laidByText := true, laidKinds := [.data, .data, .data, .data, .data, .data, .data, .sentinel, .sentinel, .sentinel, .data], laidTests := true, laidLooks := .later }
def FnFixQuoUptoCardSaid : Prop := Claim7.holds Tryz.pinned (.plain (OpenSpec.upto fnFixQuoSpec)) fnFixQuoUptoCard

/-- THE SECOND FORM's CARD OF 'laws.FnFixMulExact'. -/
def fnFixMulExactUptoCard : Claim7 := { stood := { row := fnFixMulExactUptoRow, standIns := [], harness := (true, "d22b565efc6633411204d8cf9e37e3f503d6841a8b3e25444270bd66996058d5"), looks := false }, kinds := [], alts := [], laidByText := true, laidKinds := [.data, .data, .data, .data, .data, .data, .data, .sentinel, .sentinel, .data], laidTests := true, laidLooks := .later }
def FnFixMulExactUptoCardSaid : Prop := Claim7.holds Tryz.pinned (.plain (OpenSpec.upto fnFixMulExactSpec)) fnFixMulExactUptoCard
end Rows
end Go.Proofs.YtjdfapoomjeabaaGreatDoor
