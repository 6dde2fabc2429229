/-
  DERIVED. GIVEN WITH THE SEED: THE CARDS: each row of Qxb6618727aDoorRows.lean that lists a variable, with what it lists TIED to the program's text (the seventh form; the later family's looks); each row that meets fmt, with fmt's text TOLD by the authors' own Lean function (tested against real Go, not proved from fmt's source: count such statements apart). THE CARD IS WHAT COUNTS. Prove the row's statement (the work); the ties are given (Qxb6618727aDoorTie.lean); close each card by the builder's one call (the guide's Derived/Test/ToyasCard.lean, 'card_holds'). Laid BY PROGRAM, IN A SANDBOX (cutbox-door.mjs). By AI agents, Wed Nov 11 2026. No macro, syntax, notation, axiom, sorry.
-/
import Derived.Test.Qxb6618727aDoorRows
import GoSem.ClaimSeven
namespace Go.Proofs.Qxb6618727aDoor
namespace Rows

/-- THE TIED CARD OF 'zzlaws_internal_fleet_b1.FnReportedAgainIsQuiet'. -/
def fnReportedAgainIsQuietCard : Claim7 := { stood := { row := fnReportedAgainIsQuietRow, standIns := [], harness := (true, "f65d34f6ae8a562942ba5e13fa4f20dd34c5a768d9bcd0d26bd24b46066452ec"), looks := false }, kinds := [], alts := [], laidByText := true, laidKinds := [.data, .data, .data], laidTests := true, laidLooks := .later }
def FnReportedAgainIsQuietCardSaid : Prop := Claim7.holds Tryd.pinned (.plain (OpenSpec.ofChange fnReportedAgainIsQuietSpec)) fnReportedAgainIsQuietCard

/-- THE TIED CARD OF 'zzlaws_internal_fleet_b1.FnSameReportedAfterReport'. -/
def fnSameReportedAfterReportCard : Claim7 := { stood := { row := fnSameReportedAfterReportRow, standIns := [], harness := (true, "f65d34f6ae8a562942ba5e13fa4f20dd34c5a768d9bcd0d26bd24b46066452ec"), looks := false }, kinds := [], alts := [], laidByText := true, laidKinds := [.data, .data, .data], laidTests := true, laidLooks := .later }
def FnSameReportedAfterReportCardSaid : Prop := Claim7.holds Tryd.pinned (.plain (OpenSpec.ofChange fnSameReportedAfterReportSpec)) fnSameReportedAfterReportCard
end Rows
end Go.Proofs.Qxb6618727aDoor
