/-
  DERIVED. GIVEN WITH THE SEED: THE CARDS: each row of YtomkhhpigpilfaaGreatDoorRows.lean that lists a variable, with what it lists TIED to the program's text (the seventh form; the later family's looks); each row that meets fmt, with fmt's text TOLD by the authors' own Lean function (tested against real Go, not proved from fmt's source: count such statements apart). THE CARD IS WHAT COUNTS. Prove the row's statement (the work); the ties are given (YtomkhhpigpilfaaGreatDoorTie.lean); close each card by the builder's one call (the guide's Derived/Test/ToyasCard.lean, 'card_holds'). Laid BY PROGRAM, IN A SANDBOX (cutbox-door.mjs). By AI agents, Wed Nov 11 2026. No macro, syntax, notation, axiom, sorry.
-/
import Derived.Test.YtomkhhpigpilfaaGreatDoorRows
import GoSem.ClaimSeven
namespace Go.Proofs.YtomkhhpigpilfaaGreatDoor
namespace Rows

/-- THE TIED CARD OF 'laws.FnCronFewer'. -/
def fnCronFewerCard : Claim7 := { stood := { row := fnCronFewerRow, standIns := [], harness := (true, "a7cd1a226fb64d1fb052f568f2929cadf55a57fed653d4f635ab4f957de43f7a"), looks := true }, kinds := [], alts := [], laidByText := true, laidKinds := [.data, .data, .data, .data, .sentinel, .sentinel, .sentinel, .sentinel, .pinned], laidTests := true, laidLooks := .later }
def FnCronFewerCardSaid : Prop := Claim7.holds Tryz.pinned (.plain (OpenSpec.ofChange fnCronFewerSpec)) fnCronFewerCard

/-- THE TIED CARD OF 'laws.FnCronSpellings'. -/
def fnCronSpellingsCard : Claim7 := { stood := { row := fnCronSpellingsRow, standIns := [], harness := (true, "a7cd1a226fb64d1fb052f568f2929cadf55a57fed653d4f635ab4f957de43f7a"), looks := true }, kinds := [], alts := [], laidByText := true, laidKinds := [.data, .data, .data, .data, .sentinel, .sentinel, .sentinel, .sentinel, .pinned], laidTests := true, laidLooks := .later }
def FnCronSpellingsCardSaid : Prop := Claim7.holds Tryz.pinned (.plain (OpenSpec.ofChange fnCronSpellingsSpec)) fnCronSpellingsCard

/-- THE SECOND FORM's CARD OF 'laws.FnCronFewer'. -/
def fnCronFewerUptoCard : Claim7 := { stood := { row := fnCronFewerUptoRow, standIns := [], harness := (true, "a7cd1a226fb64d1fb052f568f2929cadf55a57fed653d4f635ab4f957de43f7a"), looks := true }, kinds := [], alts := [], laidByText := true, laidKinds := [.data, .data, .data, .data, .sentinel, .sentinel, .sentinel, .sentinel, .pinned], laidTests := true, laidLooks := .later }
def FnCronFewerUptoCardSaid : Prop := Claim7.holds Tryz.pinned (.plain (OpenSpec.upto fnCronFewerSpec)) fnCronFewerUptoCard

/-- THE SECOND FORM's CARD OF 'laws.FnCronSpellings'. -/
def fnCronSpellingsUptoCard : Claim7 := { stood := { row := fnCronSpellingsUptoRow, standIns := [], harness := (true, "a7cd1a226fb64d1fb052f568f2929cadf55a57fed653d4f635ab4f957de43f7a"), looks := true }, kinds := [], alts := [], laidByText := true, laidKinds := [.data, .data, .data, .data, .sentinel, .sentinel, .sentinel, .sentinel, .pinned], laidTests := true, laidLooks := .later }
def FnCronSpellingsUptoCardSaid : Prop := Claim7.holds Tryz.pinned (.plain (OpenSpec.upto fnCronSpellingsSpec)) fnCronSpellingsUptoCard
end Rows
end Go.Proofs.YtomkhhpigpilfaaGreatDoor
