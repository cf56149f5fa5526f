/-
  DERIVED. GIVEN WITH THE SEED: THE CARDS: each row of YtekjeagcncfmmaaDoorRows.lean that lists a variable, with what it lists TIED to the program's text (the seventh form; the later family's looks); each row that meets fmt, with fmt's text TOLD by the authors' own Lean function (tested against real Go, not proved from fmt's source: count such statements apart). THE CARD IS WHAT COUNTS. Prove the row's statement (the work); the ties are given (YtekjeagcncfmmaaDoorTie.lean); close each card by the builder's one call (the guide's Derived/Test/ToyasCard.lean, 'card_holds'). Laid BY PROGRAM, IN A SANDBOX (cutbox-door.mjs). By AI agents, Wed Nov 11 2026. No macro, syntax, notation, axiom, sorry.
-/
import Derived.Test.YtekjeagcncfmmaaDoorRows
import GoSem.ClaimSeven
namespace Go.Proofs.YtekjeagcncfmmaaDoor
namespace Rows

/-- THE TIED CARD OF 'laws.FnSetFindOf'. -/
def fnSetFindOfCard : Claim7 := { stood := { row := fnSetFindOfRow, standIns := [], harness := (true, "e53bedf8ca5f2f50dd77e02765f87f2be3992a7bc4c74c3737c5e861e1756c04"), looks := true }, kinds := [], alts := [], laidByText := true, laidKinds := [.sentinel, .sentinel, .sentinel, .sentinel, .sentinel], laidTests := true, laidLooks := .later }
def FnSetFindOfCardSaid : Prop := Claim7.holds Tryd.pinned (.plain (OpenSpec.ofChange fnSetFindOfSpec)) fnSetFindOfCard

/-- THE SECOND FORM's CARD OF 'laws.FnSetFindOf'. -/
def fnSetFindOfUptoCard : Claim7 := { stood := { row := fnSetFindOfUptoRow, standIns := [], harness := (true, "e53bedf8ca5f2f50dd77e02765f87f2be3992a7bc4c74c3737c5e861e1756c04"), looks := true }, kinds := [], alts := [], laidByText := true, laidKinds := [.sentinel, .sentinel, .sentinel, .sentinel, .sentinel], laidTests := true, laidLooks := .later }
def FnSetFindOfUptoCardSaid : Prop := Claim7.holds Tryd.pinned (.plain (OpenSpec.upto fnSetFindOfSpec)) fnSetFindOfUptoCard
end Rows
end Go.Proofs.YtekjeagcncfmmaaDoor
