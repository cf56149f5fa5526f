/-
  DERIVED. GIVEN WITH THE SEED: THE CARDS: each row of YtomkhhpigpilfaaDoorRows.lean that lists a variable, with what it lists TIED to the program's text (the seventh form; the later family's looks); each row that meets fmt, with fmt's text TOLD by the authors' own Lean function (tested against real Go, not proved from fmt's source: count such statements apart). THE CARD IS WHAT COUNTS. Prove the row's statement (the work); the ties are given (YtomkhhpigpilfaaDoorTie.lean); close each card by the builder's one call (the guide's Derived/Test/ToyasCard.lean, 'card_holds'). Laid BY PROGRAM, IN A SANDBOX (cutbox-door.mjs). By AI agents, Wed Nov 11 2026. No macro, syntax, notation, axiom, sorry.
-/
import Derived.Test.YtomkhhpigpilfaaDoorRows
import GoSem.ClaimSeven
namespace Go.Proofs.YtomkhhpigpilfaaDoor
namespace Rows

/-- THE TIED CARD OF 'laws.FnCronItem'. -/
def fnCronItemCard : Claim7 := { stood := { row := fnCronItemRow, standIns := [], harness := (true, "d9ceda3f1f06619c0540aeb7c4263a138076856a92ff11bd51ff3539114a8a39"), looks := true }, kinds := [], alts := [], laidByText := true, laidKinds := [.data, .data, .data, .sentinel, .sentinel], laidTests := true, laidLooks := .later }
def FnCronItemCardSaid : Prop := Claim7.holds Tryd.pinned (.plain (OpenSpec.ofChange fnCronItemSpec)) fnCronItemCard

/-- THE SECOND FORM's CARD OF 'laws.FnCronItem'. -/
def fnCronItemUptoCard : Claim7 := { stood := { row := fnCronItemUptoRow, standIns := [], harness := (true, "d9ceda3f1f06619c0540aeb7c4263a138076856a92ff11bd51ff3539114a8a39"), looks := true }, kinds := [], alts := [], laidByText := true, laidKinds := [.data, .data, .data, .sentinel, .sentinel], laidTests := true, laidLooks := .later }
def FnCronItemUptoCardSaid : Prop := Claim7.holds Tryd.pinned (.plain (OpenSpec.upto fnCronItemSpec)) fnCronItemUptoCard
end Rows
end Go.Proofs.YtomkhhpigpilfaaDoor
