/-
  DERIVED. GIVEN WITH THE SEED: THE CARDS: each row of YtknjengnipidoaaDoorRows.lean that lists a variable, with what it lists TIED to the program's text (the seventh form; the later family's looks); each row that meets fmt, with fmt's text TOLD by the authors' own Lean function (tested against real Go, not proved from fmt's source: count such statements apart). THE CARD IS WHAT COUNTS. Prove the row's statement (the work); the ties are given (YtknjengnipidoaaDoorTie.lean); close each card by the builder's one call (the guide's Derived/Test/ToyasCard.lean, 'card_holds'). Laid BY PROGRAM, IN A SANDBOX (cutbox-door.mjs). By AI agents, Wed Nov 11 2026. No macro, syntax, notation, axiom, sorry.
-/
import Derived.Test.YtknjengnipidoaaDoorRows
import GoSem.ClaimSeven
namespace Go.Proofs.YtknjengnipidoaaDoor
namespace Rows

/-- THE TIED CARD OF 'laws.FnSemverValidPre'. -/
def fnSemverValidPreCard : Claim7 := { stood := { row := fnSemverValidPreRow, standIns := [], harness := (true, "84a83f41671c245af29d00bf7696102d4eeb8511ab03375a25ca48595154c3a1"), looks := false }, kinds := [], alts := [], laidByText := true, laidKinds := [.sentinel, .sentinel], laidTests := true, laidLooks := .later }
def FnSemverValidPreCardSaid : Prop := Claim7.holds Tryd.pinned (.plain (OpenSpec.ofChange fnSemverValidPreSpec)) fnSemverValidPreCard

/-- THE TIED CARD OF 'laws.FnSemverValidJoin'. -/
def fnSemverValidJoinCard : Claim7 := { stood := { row := fnSemverValidJoinRow, standIns := [], harness := (true, "84a83f41671c245af29d00bf7696102d4eeb8511ab03375a25ca48595154c3a1"), looks := false }, kinds := [], alts := [], laidByText := true, laidKinds := [.sentinel, .sentinel, .sentinel], laidTests := true, laidLooks := .later }
def FnSemverValidJoinCardSaid : Prop := Claim7.holds Tryd.pinned (.plain (OpenSpec.ofChange fnSemverValidJoinSpec)) fnSemverValidJoinCard

/-- THE TIED CARD OF 'laws.FnSemverPrints'. -/
def fnSemverPrintsCard : Claim7 := { stood := { row := fnSemverPrintsRow, standIns := [], harness := (true, "84a83f41671c245af29d00bf7696102d4eeb8511ab03375a25ca48595154c3a1"), looks := false }, kinds := [], alts := [], laidByText := true, laidKinds := [.data, .data, .data], laidTests := true, laidLooks := .later }
def FnSemverPrintsCardSaid : Prop := Claim7.holds Tryd.pinned (.plain (OpenSpec.ofChange fnSemverPrintsSpec)) fnSemverPrintsCard

/-- THE TIED CARD OF 'laws.FnSemverIncMajor'. -/
def fnSemverIncMajorCard : Claim7 := { stood := { row := fnSemverIncMajorRow, standIns := [], harness := (true, "84a83f41671c245af29d00bf7696102d4eeb8511ab03375a25ca48595154c3a1"), looks := false }, kinds := [], alts := [], laidByText := true, laidKinds := [.data, .data, .data], laidTests := true, laidLooks := .later }
def FnSemverIncMajorCardSaid : Prop := Claim7.holds Tryd.pinned (.plain (OpenSpec.ofChange fnSemverIncMajorSpec)) fnSemverIncMajorCard

/-- THE SECOND FORM's CARD OF 'laws.FnSemverValidPre'. -/
def fnSemverValidPreUptoCard : Claim7 := { stood := { row := fnSemverValidPreUptoRow, standIns := [], harness := (true, "84a83f41671c245af29d00bf7696102d4eeb8511ab03375a25ca48595154c3a1"), looks := false }, kinds := [], alts := [], laidByText := true, laidKinds := [.sentinel, .sentinel], laidTests := true, laidLooks := .later }
def FnSemverValidPreUptoCardSaid : Prop := Claim7.holds Tryd.pinned (.plain (OpenSpec.upto fnSemverValidPreSpec)) fnSemverValidPreUptoCard

/-- THE SECOND FORM's CARD OF 'laws.FnSemverValidJoin'. -/
def fnSemverValidJoinUptoCard : Claim7 := { stood := { row := fnSemverValidJoinUptoRow, standIns := [], harness := (true, "84a83f41671c245af29d00bf7696102d4eeb8511ab03375a25ca48595154c3a1"), looks := false }, kinds := [], alts := [], laidByText := true, laidKinds := [.sentinel, .sentinel, .sentinel], laidTests := true, laidLooks := .later }
def FnSemverValidJoinUptoCardSaid : Prop := Claim7.holds Tryd.pinned (.plain (OpenSpec.upto fnSemverValidJoinSpec)) fnSemverValidJoinUptoCard

/-- THE SECOND FORM's CARD OF 'laws.FnSemverPrints'. -/
def fnSemverPrintsUptoCard : Claim7 := { stood := { row := fnSemverPrintsUptoRow, standIns := [], harness := (true, "84a83f41671c245af29d00bf7696102d4eeb8511ab03375a25ca48595154c3a1"), looks := false }, kinds := [], alts := [], laidByText := true, laidKinds := [.data, .data, .data], laidTests := true, laidLooks := .later }
def FnSemverPrintsUptoCardSaid : Prop := Claim7.holds Tryd.pinned (.plain (OpenSpec.upto fnSemverPrintsSpec)) fnSemverPrintsUptoCard

/-- THE SECOND FORM's CARD OF 'laws.FnSemverIncMajor'. -/
def fnSemverIncMajorUptoCard : Claim7 := { stood := { row := fnSemverIncMajorUptoRow, standIns := [], harness := (true, "84a83f41671c245af29d00bf7696102d4eeb8511ab03375a25ca48595154c3a1"), looks := false }, kinds := [], alts := [], laidByText := true, laidKinds := [.data, .data, .data], laidTests := true, laidLooks := .later }
def FnSemverIncMajorUptoCardSaid : Prop := Claim7.holds Tryd.pinned (.plain (OpenSpec.upto fnSemverIncMajorSpec)) fnSemverIncMajorUptoCard
end Rows
end Go.Proofs.YtknjengnipidoaaDoor
