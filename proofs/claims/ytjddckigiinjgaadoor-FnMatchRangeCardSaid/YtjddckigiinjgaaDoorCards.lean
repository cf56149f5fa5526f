/-
  DERIVED. GIVEN WITH THE SEED: THE CARDS: each row of YtjddckigiinjgaaDoorRows.lean that lists a variable, with what it lists TIED to the program's text (the seventh form; the later family's looks); each row that meets fmt, with fmt's text TOLD by the authors' own Lean function (tested against real Go, not proved from fmt's source: count such statements apart). THE CARD IS WHAT COUNTS. Prove the row's statement (the work); the ties are given (YtjddckigiinjgaaDoorTie.lean); close each card by the builder's one call (the guide's Derived/Test/ToyasCard.lean, 'card_holds'). Laid BY PROGRAM, IN A SANDBOX (cutbox-door.mjs). By AI agents, Wed Nov 11 2026. No macro, syntax, notation, axiom, sorry.
-/
import Derived.Test.YtjddckigiinjgaaDoorRows
import GoSem.ClaimSeven
namespace Go.Proofs.YtjddckigiinjgaaDoor
namespace Rows

/-- THE TIED CARD OF 'laws.FnMatchRange'. -/
def fnMatchRangeCard : Claim7 := { stood := { row := fnMatchRangeRow, standIns := [], harness := (true, "99cce54a6041528dbfb97a6de5e1fb8d1e6e1fe23f16e625691ceba72710b1af"), looks := true }, kinds := [], alts := [], laidByText := true, laidKinds := [.data, .sentinel, .pinned], laidTests := true, laidLooks := .later }
def FnMatchRangeCardSaid : Prop := Claim7.holds Tryd.pinned (.plain (OpenSpec.ofChange fnMatchRangeSpec)) fnMatchRangeCard

/-- THE SECOND FORM's CARD OF 'laws.FnMatchRange'. -/
def fnMatchRangeUptoCard : Claim7 := { stood := { row := fnMatchRangeUptoRow, standIns := [], harness := (true, "99cce54a6041528dbfb97a6de5e1fb8d1e6e1fe23f16e625691ceba72710b1af"), looks := true }, kinds := [], alts := [], laidByText := true, laidKinds := [.data, .sentinel, .pinned], laidTests := true, laidLooks := .later }
def FnMatchRangeUptoCardSaid : Prop := Claim7.holds Tryd.pinned (.plain (OpenSpec.upto fnMatchRangeSpec)) fnMatchRangeUptoCard
end Rows
end Go.Proofs.YtjddckigiinjgaaDoor
