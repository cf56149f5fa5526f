/-
  DERIVED. GIVEN WITH THE SEED: THE CARDS: each row of YtcaabeocflfboaaDoorRows.lean that lists a variable, with what it lists TIED to the program's text (the seventh form; the later family's looks); each row that meets fmt, with fmt's text TOLD by the authors' own Lean function (tested against real Go, not proved from fmt's source: count such statements apart). THE CARD IS WHAT COUNTS. Prove the row's statement (the work); the ties are given (YtcaabeocflfboaaDoorTie.lean); close each card by the builder's one call (the guide's Derived/Test/ToyasCard.lean, 'card_holds'). Laid BY PROGRAM, IN A SANDBOX (cutbox-door.mjs). By AI agents, Wed Nov 11 2026. No macro, syntax, notation, axiom, sorry.
-/
import Derived.Test.YtcaabeocflfboaaDoorRows
import GoSem.ClaimSeven
namespace Go.Proofs.YtcaabeocflfboaaDoor
namespace Rows

/-- THE TIED CARD OF 'laws.FnCronNumber'. -/
def fnCronNumberCard : Claim7 := { stood := { row := fnCronNumberRow, standIns := [], harness := (true, "b82f0b77400a77c5c74ef304b16ade98eee92adbf94f4e06a27720b05b7026c8"), looks := true }, kinds := [], alts := [], laidByText := true, laidKinds := [.data, .data, .data, .sentinel, .sentinel], laidTests := true, laidLooks := .later }
def FnCronNumberCardSaid : Prop := Claim7.holds Tryd.pinned (.plain (OpenSpec.ofChange fnCronNumberSpec)) fnCronNumberCard

/-- THE TIED CARD OF 'laws.FnCronItemFrom'. -/
def fnCronItemFromCard : Claim7 := { stood := { row := fnCronItemFromRow, standIns := [], harness := (true, "b82f0b77400a77c5c74ef304b16ade98eee92adbf94f4e06a27720b05b7026c8"), looks := true }, kinds := [], alts := [], laidByText := true, laidKinds := [.data, .data, .data, .sentinel, .sentinel], laidTests := true, laidLooks := .later }
def FnCronItemFromCardSaid : Prop := Claim7.holds Tryd.pinned (.plain (OpenSpec.ofChange fnCronItemFromSpec)) fnCronItemFromCard

/-- THE TIED CARD OF 'laws.FnCronItem'. -/
def fnCronItemCard : Claim7 := { stood := { row := fnCronItemRow, standIns := [], harness := (true, "b82f0b77400a77c5c74ef304b16ade98eee92adbf94f4e06a27720b05b7026c8"), looks := true }, kinds := [], alts := [], laidByText := true, laidKinds := [.data, .data, .data, .sentinel, .sentinel], laidTests := true, laidLooks := .later }
def FnCronItemCardSaid : Prop := Claim7.holds Tryd.pinned (.plain (OpenSpec.ofChange fnCronItemSpec)) fnCronItemCard

/-- THE TIED CARD OF 'laws.FnCronStepAsList'. -/
def fnCronStepAsListCard : Claim7 := { stood := { row := fnCronStepAsListRow, standIns := [], harness := (true, "b82f0b77400a77c5c74ef304b16ade98eee92adbf94f4e06a27720b05b7026c8"), looks := true }, kinds := [], alts := [], laidByText := true, laidKinds := [.data, .data, .data, .sentinel, .sentinel], laidTests := true, laidLooks := .later }
def FnCronStepAsListCardSaid : Prop := Claim7.holds Tryd.pinned (.plain (OpenSpec.ofChange fnCronStepAsListSpec)) fnCronStepAsListCard

/-- THE SECOND FORM's CARD OF 'laws.FnCronNumber'. -/
def fnCronNumberUptoCard : Claim7 := { stood := { row := fnCronNumberUptoRow, standIns := [], harness := (true, "b82f0b77400a77c5c74ef304b16ade98eee92adbf94f4e06a27720b05b7026c8"), looks := true }, kinds := [], alts := [], laidByText := true, laidKinds := [.data, .data, .data, .sentinel, .sentinel], laidTests := true, laidLooks := .later }
def FnCronNumberUptoCardSaid : Prop := Claim7.holds Tryd.pinned (.plain (OpenSpec.upto fnCronNumberSpec)) fnCronNumberUptoCard

/-- THE SECOND FORM's CARD OF 'laws.FnCronItemFrom'. -/
def fnCronItemFromUptoCard : Claim7 := { stood := { row := fnCronItemFromUptoRow, standIns := [], harness := (true, "b82f0b77400a77c5c74ef304b16ade98eee92adbf94f4e06a27720b05b7026c8"), looks := true }, kinds := [], alts := [], laidByText := true, laidKinds := [.data, .data, .data, .sentinel, .sentinel], laidTests := true, laidLooks := .later }
def FnCronItemFromUptoCardSaid : Prop := Claim7.holds Tryd.pinned (.plain (OpenSpec.upto fnCronItemFromSpec)) fnCronItemFromUptoCard

/-- THE SECOND FORM's CARD OF 'laws.FnCronItem'. -/
def fnCronItemUptoCard : Claim7 := { stood := { row := fnCronItemUptoRow, standIns := [], harness := (true, "b82f0b77400a77c5c74ef304b16ade98eee92adbf94f4e06a27720b05b7026c8"), looks := true }, kinds := [], alts := [], laidByText := true, laidKinds := [.data, .data, .data, .sentinel, .sentinel], laidTests := true, laidLooks := .later }
def FnCronItemUptoCardSaid : Prop := Claim7.holds Tryd.pinned (.plain (OpenSpec.upto fnCronItemSpec)) fnCronItemUptoCard

/-- THE SECOND FORM's CARD OF 'laws.FnCronStepAsList'. -/
def fnCronStepAsListUptoCard : Claim7 := { stood := { row := fnCronStepAsListUptoRow, standIns := [], harness := (true, "b82f0b77400a77c5c74ef304b16ade98eee92adbf94f4e06a27720b05b7026c8"), looks := true }, kinds := [], alts := [], laidByText := true, laidKinds := [.data, .data, .data, .sentinel, .sentinel], laidTests := true, laidLooks := .later }
def FnCronStepAsListUptoCardSaid : Prop := Claim7.holds Tryd.pinned (.plain (OpenSpec.upto fnCronStepAsListSpec)) fnCronStepAsListUptoCard
end Rows
end Go.Proofs.YtcaabeocflfboaaDoor
