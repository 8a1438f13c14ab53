/-
  DERIVED. GIVEN WITH THE SEED: THE CARDS: each row of YtnaefgnjdmmmcaaGreatDoorRows.lean that lists a variable, with what it lists TIED to the program's text (the seventh form; the later family's looks); each row that meets fmt, with fmt's text TOLD by the authors' own Lean function (tested against real Go, not proved from fmt's source: count such statements apart). THE CARD IS WHAT COUNTS. Prove the row's statement (the work); the ties are given (YtnaefgnjdmmmcaaGreatDoorTie.lean); close each card by the builder's one call (the guide's Derived/Test/ToyasCard.lean, 'card_holds'). Laid BY PROGRAM, IN A SANDBOX (cutbox-door.mjs). By AI agents, Wed Nov 11 2026. No macro, syntax, notation, axiom, sorry.
-/
import Derived.Test.YtnaefgnjdmmmcaaGreatDoorRows
import GoSem.ClaimSeven
namespace Go.Proofs.YtnaefgnjdmmmcaaGreatDoor
namespace Rows

/-- THE TIED CARD OF 'laws.FnConnection'. -/
def fnConnectionCard : Claim7 := { stood := { row := fnConnectionRow, standIns := [], harness := (true, "d9ccc27eca86251507bfcb1bf14439f1c14b71622300b8c7ae21b0647d78665d"), looks := true }, kinds := [], alts := [], laidByText := true, laidKinds := [.data], laidTests := true, laidLooks := .later }
def FnConnectionCardSaid : Prop := Claim7.holds Tryz.pinned (.plain (OpenSpec.ofChange fnConnectionSpec)) fnConnectionCard

/-- THE TIED CARD OF 'laws.FnResumed'. -/
def fnResumedCard : Claim7 := { stood := { row := fnResumedRow, standIns := [], harness := (true, "d9ccc27eca86251507bfcb1bf14439f1c14b71622300b8c7ae21b0647d78665d"), looks := true }, kinds := [], alts := [], laidByText := true, laidKinds := [.data], laidTests := true, laidLooks := .later }
def FnResumedCardSaid : Prop := Claim7.holds Tryz.pinned (.plain (OpenSpec.ofChange fnResumedSpec)) fnResumedCard

/-- THE SECOND FORM's CARD OF 'laws.FnConnection'. -/
def fnConnectionUptoCard : Claim7 := { stood := { row := fnConnectionUptoRow, standIns := [], harness := (true, "d9ccc27eca86251507bfcb1bf14439f1c14b71622300b8c7ae21b0647d78665d"), looks := true }, kinds := [], alts := [], laidByText := true, laidKinds := [.data], laidTests := true, laidLooks := .later }
def FnConnectionUptoCardSaid : Prop := Claim7.holds Tryz.pinned (.plain (OpenSpec.upto fnConnectionSpec)) fnConnectionUptoCard

/-- THE SECOND FORM's CARD OF 'laws.FnResumed'. -/
def fnResumedUptoCard : Claim7 := { stood := { row := fnResumedUptoRow, standIns := [], harness := (true, "d9ccc27eca86251507bfcb1bf14439f1c14b71622300b8c7ae21b0647d78665d"), looks := true }, kinds := [], alts := [], laidByText := true, laidKinds := [.data], laidTests := true, laidLooks := .later }
def FnResumedUptoCardSaid : Prop := Claim7.holds Tryz.pinned (.plain (OpenSpec.upto fnResumedSpec)) fnResumedUptoCard
end Rows
end Go.Proofs.YtnaefgnjdmmmcaaGreatDoor
