/-
  DERIVED. GIVEN WITH THE SEED: THE CARDS: each row of YtmlbjcdildaldaaDoorRows.lean that lists a variable, with what it lists TIED to the program's text (the seventh form; the later family's looks); each row that meets fmt, with fmt's text TOLD by the authors' own Lean function (tested against real Go, not proved from fmt's source: count such statements apart). THE CARD IS WHAT COUNTS. Prove the row's statement (the work); the ties are given (YtmlbjcdildaldaaDoorTie.lean); close each card by the builder's one call (the guide's Derived/Test/ToyasCard.lean, 'card_holds'). Laid BY PROGRAM, IN A SANDBOX (cutbox-door.mjs). By AI agents, Wed Nov 11 2026. No macro, syntax, notation, axiom, sorry.
-/
import Derived.Test.YtmlbjcdildaldaaDoorRows
import GoSem.ClaimSeven
namespace Go.Proofs.YtmlbjcdildaldaaDoor
namespace Rows

/-- THE TIED CARD OF 'laws.FnSemverPartOrder'. -/
def fnSemverPartOrderCard : Claim7 := { stood := { row := fnSemverPartOrderRow, standIns := [], harness := (true, "f9834b5916c9e4f4179b5c298960881953bc842738e10149e8460e1b9702e92a"), looks := true }, kinds := [], alts := [], laidByText := true, laidKinds := [.data, .data, .data, .sentinel, .sentinel], laidTests := true, laidLooks := .later }
def FnSemverPartOrderCardSaid : Prop := Claim7.holds Tryd.pinned (.plain (OpenSpec.ofChange fnSemverPartOrderSpec)) fnSemverPartOrderCard

/-- THE TIED CARD OF 'laws.FnSemverNumbersFirst'. -/
def fnSemverNumbersFirstCard : Claim7 := { stood := { row := fnSemverNumbersFirstRow, standIns := [], harness := (true, "f9834b5916c9e4f4179b5c298960881953bc842738e10149e8460e1b9702e92a"), looks := true }, kinds := [], alts := [], laidByText := true, laidKinds := [.data, .data, .data, .sentinel, .sentinel], laidTests := true, laidLooks := .later }
def FnSemverNumbersFirstCardSaid : Prop := Claim7.holds Tryd.pinned (.plain (OpenSpec.ofChange fnSemverNumbersFirstSpec)) fnSemverNumbersFirstCard

/-- THE TIED CARD OF 'laws.FnSemverNextAfter'. -/
def fnSemverNextAfterCard : Claim7 := { stood := { row := fnSemverNextAfterRow, standIns := [], harness := (true, "f9834b5916c9e4f4179b5c298960881953bc842738e10149e8460e1b9702e92a"), looks := true }, kinds := [], alts := [], laidByText := true, laidKinds := [.data, .data, .data, .sentinel, .sentinel], laidTests := true, laidLooks := .later }
def FnSemverNextAfterCardSaid : Prop := Claim7.holds Tryd.pinned (.plain (OpenSpec.ofChange fnSemverNextAfterSpec)) fnSemverNextAfterCard

/-- THE TIED CARD OF 'laws.FnSemverCaretHolds'. -/
def fnSemverCaretHoldsCard : Claim7 := { stood := { row := fnSemverCaretHoldsRow, standIns := [], harness := (true, "f9834b5916c9e4f4179b5c298960881953bc842738e10149e8460e1b9702e92a"), looks := true }, kinds := [], alts := [], laidByText := true, laidKinds := [.data, .data, .data, .sentinel, .sentinel], laidTests := true, laidLooks := .later }
def FnSemverCaretHoldsCardSaid : Prop := Claim7.holds Tryd.pinned (.plain (OpenSpec.ofChange fnSemverCaretHoldsSpec)) fnSemverCaretHoldsCard

/-- THE TIED CARD OF 'laws.FnSemverEqualHolds'. -/
def fnSemverEqualHoldsCard : Claim7 := { stood := { row := fnSemverEqualHoldsRow, standIns := [], harness := (true, "f9834b5916c9e4f4179b5c298960881953bc842738e10149e8460e1b9702e92a"), looks := true }, kinds := [], alts := [], laidByText := true, laidKinds := [.data, .data, .data, .sentinel, .sentinel], laidTests := true, laidLooks := .later }
def FnSemverEqualHoldsCardSaid : Prop := Claim7.holds Tryd.pinned (.plain (OpenSpec.ofChange fnSemverEqualHoldsSpec)) fnSemverEqualHoldsCard

/-- THE TIED CARD OF 'laws.FnSemverCaretWindow'. -/
def fnSemverCaretWindowCard : Claim7 := { stood := { row := fnSemverCaretWindowRow, standIns := [], harness := (true, "f9834b5916c9e4f4179b5c298960881953bc842738e10149e8460e1b9702e92a"), looks := true }, kinds := [], alts := [], laidByText := true, laidKinds := [.data, .data, .data, .sentinel, .sentinel], laidTests := true, laidLooks := .later }
def FnSemverCaretWindowCardSaid : Prop := Claim7.holds Tryd.pinned (.plain (OpenSpec.ofChange fnSemverCaretWindowSpec)) fnSemverCaretWindowCard

/-- THE TIED CARD OF 'laws.FnSemverTermApart'. -/
def fnSemverTermApartCard : Claim7 := { stood := { row := fnSemverTermApartRow, standIns := [], harness := (true, "f9834b5916c9e4f4179b5c298960881953bc842738e10149e8460e1b9702e92a"), looks := true }, kinds := [], alts := [], laidByText := true, laidKinds := [.data, .data, .data, .sentinel, .sentinel], laidTests := true, laidLooks := .later }
def FnSemverTermApartCardSaid : Prop := Claim7.holds Tryd.pinned (.plain (OpenSpec.ofChange fnSemverTermApartSpec)) fnSemverTermApartCard

/-- THE TIED CARD OF 'laws.FnSemverTermLetIn'. -/
def fnSemverTermLetInCard : Claim7 := { stood := { row := fnSemverTermLetInRow, standIns := [], harness := (true, "f9834b5916c9e4f4179b5c298960881953bc842738e10149e8460e1b9702e92a"), looks := true }, kinds := [], alts := [], laidByText := true, laidKinds := [.data, .data, .data, .sentinel, .sentinel], laidTests := true, laidLooks := .later }
def FnSemverTermLetInCardSaid : Prop := Claim7.holds Tryd.pinned (.plain (OpenSpec.ofChange fnSemverTermLetInSpec)) fnSemverTermLetInCard

/-- THE TIED CARD OF 'laws.FnSemverTermWild'. -/
def fnSemverTermWildCard : Claim7 := { stood := { row := fnSemverTermWildRow, standIns := [], harness := (true, "f9834b5916c9e4f4179b5c298960881953bc842738e10149e8460e1b9702e92a"), looks := true }, kinds := [], alts := [], laidByText := true, laidKinds := [.data, .data, .data, .sentinel, .sentinel], laidTests := true, laidLooks := .later }
def FnSemverTermWildCardSaid : Prop := Claim7.holds Tryd.pinned (.plain (OpenSpec.ofChange fnSemverTermWildSpec)) fnSemverTermWildCard

/-- THE TIED CARD OF 'laws.FnSemverAgree'. -/
def fnSemverAgreeCard : Claim7 := { stood := { row := fnSemverAgreeRow, standIns := [], harness := (true, "f9834b5916c9e4f4179b5c298960881953bc842738e10149e8460e1b9702e92a"), looks := true }, kinds := [], alts := [], laidByText := true, laidKinds := [.data, .data, .data, .sentinel, .sentinel], laidTests := true, laidLooks := .later }
def FnSemverAgreeCardSaid : Prop := Claim7.holds Tryd.pinned (.plain (OpenSpec.ofChange fnSemverAgreeSpec)) fnSemverAgreeCard

/-- THE TIED CARD OF 'laws.FnSemverTermsGroup'. -/
def fnSemverTermsGroupCard : Claim7 := { stood := { row := fnSemverTermsGroupRow, standIns := [], harness := (true, "f9834b5916c9e4f4179b5c298960881953bc842738e10149e8460e1b9702e92a"), looks := true }, kinds := [], alts := [], laidByText := true, laidKinds := [.data, .data, .data, .sentinel, .sentinel], laidTests := true, laidLooks := .later }
def FnSemverTermsGroupCardSaid : Prop := Claim7.holds Tryd.pinned (.plain (OpenSpec.ofChange fnSemverTermsGroupSpec)) fnSemverTermsGroupCard

/-- THE TIED CARD OF 'laws.FnSemverTermIsOp'. -/
def fnSemverTermIsOpCard : Claim7 := { stood := { row := fnSemverTermIsOpRow, standIns := [], harness := (true, "f9834b5916c9e4f4179b5c298960881953bc842738e10149e8460e1b9702e92a"), looks := true }, kinds := [], alts := [], laidByText := true, laidKinds := [.data, .data, .data, .sentinel, .sentinel], laidTests := true, laidLooks := .later }
def FnSemverTermIsOpCardSaid : Prop := Claim7.holds Tryd.pinned (.plain (OpenSpec.ofChange fnSemverTermIsOpSpec)) fnSemverTermIsOpCard

/-- THE SECOND FORM's CARD OF 'laws.FnSemverPartOrder'. -/
def fnSemverPartOrderUptoCard : Claim7 := { stood := { row := fnSemverPartOrderUptoRow, standIns := [], harness := (true, "f9834b5916c9e4f4179b5c298960881953bc842738e10149e8460e1b9702e92a"), looks := true }, kinds := [], alts := [], laidByText := true, laidKinds := [.data, .data, .data, .sentinel, .sentinel], laidTests := true, laidLooks := .later }
def FnSemverPartOrderUptoCardSaid : Prop := Claim7.holds Tryd.pinned (.plain (OpenSpec.upto fnSemverPartOrderSpec)) fnSemverPartOrderUptoCard

/-- THE SECOND FORM's CARD OF 'laws.FnSemverNumbersFirst'. -/
def fnSemverNumbersFirstUptoCard : Claim7 := { stood := { row := fnSemverNumbersFirstUptoRow, standIns := [], harness := (true, "f9834b5916c9e4f4179b5c298960881953bc842738e10149e8460e1b9702e92a"), looks := true }, kinds := [], alts := [], laidByText := true, laidKinds := [.data, .data, .data, .sentinel, .sentinel], laidTests := true, laidLooks := .later }
def FnSemverNumbersFirstUptoCardSaid : Prop := Claim7.holds Tryd.pinned (.plain (OpenSpec.upto fnSemverNumbersFirstSpec)) fnSemverNumbersFirstUptoCard

/-- THE SECOND FORM's CARD OF 'laws.FnSemverNextAfter'. -/
def fnSemverNextAfterUptoCard : Claim7 := { stood := { row := fnSemverNextAfterUptoRow, standIns := [], harness := (true, "f9834b5916c9e4f4179b5c298960881953bc842738e10149e8460e1b9702e92a"), looks := true }, kinds := [], alts := [], laidByText := true, laidKinds := [.data, .data, .data, .sentinel, .sentinel], laidTests := true, laidLooks := .later }
def FnSemverNextAfterUptoCardSaid : Prop := Claim7.holds Tryd.pinned (.plain (OpenSpec.upto fnSemverNextAfterSpec)) fnSemverNextAfterUptoCard

/-- THE SECOND FORM's CARD OF 'laws.FnSemverCaretHolds'. -/
def fnSemverCaretHoldsUptoCard : Claim7 := { stood := { row := fnSemverCaretHoldsUptoRow, standIns := [], harness := (true, "f9834b5916c9e4f4179b5c298960881953bc842738e10149e8460e1b9702e92a"), looks := true }, kinds := [], alts := [], laidByText := true, laidKinds := [.data, .data, .data, .sentinel, .sentinel], laidTests := true, laidLooks := .later }
def FnSemverCaretHoldsUptoCardSaid : Prop := Claim7.holds Tryd.pinned (.plain (OpenSpec.upto fnSemverCaretHoldsSpec)) fnSemverCaretHoldsUptoCard

/-- THE SECOND FORM's CARD OF 'laws.FnSemverEqualHolds'. -/
def fnSemverEqualHoldsUptoCard : Claim7 := { stood := { row := fnSemverEqualHoldsUptoRow, standIns := [], harness := (true, "f9834b5916c9e4f4179b5c298960881953bc842738e10149e8460e1b9702e92a"), looks := true }, kinds := [], alts := [], laidByText := true, laidKinds := [.data, .data, .data, .sentinel, .sentinel], laidTests := true, laidLooks := .later }
def FnSemverEqualHoldsUptoCardSaid : Prop := Claim7.holds Tryd.pinned (.plain (OpenSpec.upto fnSemverEqualHoldsSpec)) fnSemverEqualHoldsUptoCard

/-- THE SECOND FORM's CARD OF 'laws.FnSemverCaretWindow'. -/
def fnSemverCaretWindowUptoCard : Claim7 := { stood := { row := fnSemverCaretWindowUptoRow, standIns := [], harness := (true, "f9834b5916c9e4f4179b5c298960881953bc842738e10149e8460e1b9702e92a"), looks := true }, kinds := [], alts := [], laidByText := true, laidKinds := [.data, .data, .data, .sentinel, .sentinel], laidTests := true, laidLooks := .later }
def FnSemverCaretWindowUptoCardSaid : Prop := Claim7.holds Tryd.pinned (.plain (OpenSpec.upto fnSemverCaretWindowSpec)) fnSemverCaretWindowUptoCard

/-- THE SECOND FORM's CARD OF 'laws.FnSemverTermApart'. -/
def fnSemverTermApartUptoCard : Claim7 := { stood := { row := fnSemverTermApartUptoRow, standIns := [], harness := (true, "f9834b5916c9e4f4179b5c298960881953bc842738e10149e8460e1b9702e92a"), looks := true }, kinds := [], alts := [], laidByText := true, laidKinds := [.data, .data, .data, .sentinel, .sentinel], laidTests := true, laidLooks := .later }
def FnSemverTermApartUptoCardSaid : Prop := Claim7.holds Tryd.pinned (.plain (OpenSpec.upto fnSemverTermApartSpec)) fnSemverTermApartUptoCard

/-- THE SECOND FORM's CARD OF 'laws.FnSemverTermLetIn'. -/
def fnSemverTermLetInUptoCard : Claim7 := { stood := { row := fnSemverTermLetInUptoRow, standIns := [], harness := (true, "f9834b5916c9e4f4179b5c298960881953bc842738e10149e8460e1b9702e92a"), looks := true }, kinds := [], alts := [], laidByText := true, laidKinds := [.data, .data, .data, .sentinel, .sentinel], laidTests := true, laidLooks := .later }
def FnSemverTermLetInUptoCardSaid : Prop := Claim7.holds Tryd.pinned (.plain (OpenSpec.upto fnSemverTermLetInSpec)) fnSemverTermLetInUptoCard

/-- THE SECOND FORM's CARD OF 'laws.FnSemverTermWild'. -/
def fnSemverTermWildUptoCard : Claim7 := { stood := { row := fnSemverTermWildUptoRow, standIns := [], harness := (true, "f9834b5916c9e4f4179b5c298960881953bc842738e10149e8460e1b9702e92a"), looks := true }, kinds := [], alts := [], laidByText := true, laidKinds := [.data, .data, .data, .sentinel, .sentinel], laidTests := true, laidLooks := .later }
def FnSemverTermWildUptoCardSaid : Prop := Claim7.holds Tryd.pinned (.plain (OpenSpec.upto fnSemverTermWildSpec)) fnSemverTermWildUptoCard

/-- THE SECOND FORM's CARD OF 'laws.FnSemverAgree'. -/
def fnSemverAgreeUptoCard : Claim7 := { stood := { row := fnSemverAgreeUptoRow, standIns := [], harness := (true, "f9834b5916c9e4f4179b5c298960881953bc842738e10149e8460e1b9702e92a"), looks := true }, kinds := [], alts := [], laidByText := true, laidKinds := [.data, .data, .data, .sentinel, .sentinel], laidTests := true, laidLooks := .later }
def FnSemverAgreeUptoCardSaid : Prop := Claim7.holds Tryd.pinned (.plain (OpenSpec.upto fnSemverAgreeSpec)) fnSemverAgreeUptoCard

/-- THE SECOND FORM's CARD OF 'laws.FnSemverTermsGroup'. -/
def fnSemverTermsGroupUptoCard : Claim7 := { stood := { row := fnSemverTermsGroupUptoRow, standIns := [], harness := (true, "f9834b5916c9e4f4179b5c298960881953bc842738e10149e8460e1b9702e92a"), looks := true }, kinds := [], alts := [], laidByText := true, laidKinds := [.data, .data, .data, .sentinel, .sentinel], laidTests := true, laidLooks := .later }
def FnSemverTermsGroupUptoCardSaid : Prop := Claim7.holds Tryd.pinned (.plain (OpenSpec.upto fnSemverTermsGroupSpec)) fnSemverTermsGroupUptoCard

/-- THE SECOND FORM's CARD OF 'laws.FnSemverTermIsOp'. -/
def fnSemverTermIsOpUptoCard : Claim7 := { stood := { row := fnSemverTermIsOpUptoRow, standIns := [], harness := (true, "f9834b5916c9e4f4179b5c298960881953bc842738e10149e8460e1b9702e92a"), looks := true }, kinds := [], alts := [], laidByText := true, laidKinds := [.data, .data, .data, .sentinel, .sentinel], laidTests := true, laidLooks := .later }
def FnSemverTermIsOpUptoCardSaid : Prop := Claim7.holds Tryd.pinned (.plain (OpenSpec.upto fnSemverTermIsOpSpec)) fnSemverTermIsOpUptoCard
end Rows
end Go.Proofs.YtmlbjcdildaldaaDoor
