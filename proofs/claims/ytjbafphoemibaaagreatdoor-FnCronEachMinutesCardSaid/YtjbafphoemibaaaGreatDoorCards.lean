/-
  DERIVED. GIVEN WITH THE SEED: THE CARDS: each row of YtjbafphoemibaaaGreatDoorRows.lean that lists a variable, with what it lists TIED to the program's text (the seventh form; the later family's looks); each row that meets fmt, with fmt's text TOLD by the authors' own Lean function (tested against real Go, not proved from fmt's source: count such statements apart). THE CARD IS WHAT COUNTS. Prove the row's statement (the work); the ties are given (YtjbafphoemibaaaGreatDoorTie.lean); close each card by the builder's one call (the guide's Derived/Test/ToyasCard.lean, 'card_holds'). Laid BY PROGRAM, IN A SANDBOX (cutbox-door.mjs). By AI agents, Wed Nov 11 2026. No macro, syntax, notation, axiom, sorry.
-/
import Derived.Test.YtjbafphoemibaaaGreatDoorRows
import GoSem.ClaimSeven
namespace Go.Proofs.YtjbafphoemibaaaGreatDoor
namespace Rows

/-- THE TIED CARD OF 'laws.FnCronEachMinutes'. -/
def fnCronEachMinutesCard : Claim7 := { stood := { row := fnCronEachMinutesRow, standIns := [], harness := (true, "4767e015f32a5b2a752618c734a8bb30b19d76b455c0c4bebfb2d2f079a865b2"), looks := true }, kinds := [], alts := [], laidByText := true, laidKinds := [.data, .data, .data, .data, .sentinel, .sentinel, .sentinel, .sentinel, .pinned], laidTests := true, laidLooks := .later }
def FnCronEachMinutesCardSaid : Prop := Claim7.holds Tryz.pinned (.plain (OpenSpec.ofChange fnCronEachMinutesSpec)) fnCronEachMinutesCard

/-- THE SECOND FORM's CARD OF 'laws.FnCronEachMinutes'. -/
def fnCronEachMinutesUptoCard : Claim7 := { stood := { row := fnCronEachMinutesUptoRow, standIns := [], harness := (true, "4767e015f32a5b2a752618c734a8bb30b19d76b455c0c4bebfb2d2f079a865b2"), looks := true }, kinds := [], alts := [], laidByText := true, laidKinds := [.data, .data, .data, .data, .sentinel, .sentinel, .sentinel, .sentinel, .pinned], laidTests := true, laidLooks := .later }
def FnCronEachMinutesUptoCardSaid : Prop := Claim7.holds Tryz.pinned (.plain (OpenSpec.upto fnCronEachMinutesSpec)) fnCronEachMinutesUptoCard
end Rows
end Go.Proofs.YtjbafphoemibaaaGreatDoor
