/-
  DERIVED. GIVEN WITH THE SEED: THE CARDS: each row of YtkohcmgckkenpaaDoorRows.lean that lists a variable, with what it lists TIED to the program's text (the seventh form; the later family's looks); each row that meets fmt, with fmt's text TOLD by the authors' own Lean function (tested against real Go, not proved from fmt's source: count such statements apart). THE CARD IS WHAT COUNTS. Prove the row's statement (the work); the ties are given (YtkohcmgckkenpaaDoorTie.lean); close each card by the builder's one call (the guide's Derived/Test/ToyasCard.lean, 'card_holds'). Laid BY PROGRAM, IN A SANDBOX (cutbox-door.mjs). By AI agents, Wed Nov 11 2026. No macro, syntax, notation, axiom, sorry.
-/
import Derived.Test.YtkohcmgckkenpaaDoorRows
import GoSem.ClaimSeven
namespace Go.Proofs.YtkohcmgckkenpaaDoor
namespace Rows

/-- THE TIED CARD OF 'laws.FnSemverTermsGroup'. -/
def fnSemverTermsGroupCard : Claim7 := { stood := { row := fnSemverTermsGroupRow, standIns := [], harness := (true, "62dc3dbabaef9956064b9db266c9659740937ae67fbb3bb6089d25638d429377"), looks := true }, kinds := [], alts := [], laidByText := true, laidKinds := [.data, .data, .data, .sentinel, .sentinel], laidTests := true, laidLooks := .later }
def FnSemverTermsGroupCardSaid : Prop := Claim7.holds Tryd.pinned (.plain (OpenSpec.ofChange fnSemverTermsGroupSpec)) fnSemverTermsGroupCard

/-- THE TIED CARD OF 'laws.FnSemverAgree'. -/
def fnSemverAgreeCard : Claim7 := { stood := { row := fnSemverAgreeRow, standIns := [], harness := (true, "62dc3dbabaef9956064b9db266c9659740937ae67fbb3bb6089d25638d429377"), looks := true }, kinds := [], alts := [], laidByText := true, laidKinds := [.data, .data, .data, .sentinel, .sentinel], laidTests := true, laidLooks := .later }
def FnSemverAgreeCardSaid : Prop := Claim7.holds Tryd.pinned (.plain (OpenSpec.ofChange fnSemverAgreeSpec)) fnSemverAgreeCard

/-- THE SECOND FORM's CARD OF 'laws.FnSemverTermsGroup'. -/
def fnSemverTermsGroupUptoCard : Claim7 := { stood := { row := fnSemverTermsGroupUptoRow, standIns := [], harness := (true, "62dc3dbabaef9956064b9db266c9659740937ae67fbb3bb6089d25638d429377"), looks := true }, kinds := [], alts := [], laidByText := true, laidKinds := [.data, .data, .data, .sentinel, .sentinel], laidTests := true, laidLooks := .later }
def FnSemverTermsGroupUptoCardSaid : Prop := Claim7.holds Tryd.pinned (.plain (OpenSpec.upto fnSemverTermsGroupSpec)) fnSemverTermsGroupUptoCard

/-- THE SECOND FORM's CARD OF 'laws.FnSemverAgree'. -/
def fnSemverAgreeUptoCard : Claim7 := { stood := { row := fnSemverAgreeUptoRow, standIns := [], harness := (true, "62dc3dbabaef9956064b9db266c9659740937ae67fbb3bb6089d25638d429377"), looks := true }, kinds := [], alts := [], laidByText := true, laidKinds := [.data, .data, .data, .sentinel, .sentinel], laidTests := true, laidLooks := .later }
def FnSemverAgreeUptoCardSaid : Prop := Claim7.holds Tryd.pinned (.plain (OpenSpec.upto fnSemverAgreeSpec)) fnSemverAgreeUptoCard
end Rows
end Go.Proofs.YtkohcmgckkenpaaDoor
