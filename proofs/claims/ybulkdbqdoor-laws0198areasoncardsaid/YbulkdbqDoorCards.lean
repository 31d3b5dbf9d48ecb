/-
  DERIVED. GIVEN WITH THE SEED: THE CARDS: each row of YbulkdbqDoorRows.lean that lists a variable, with what it lists TIED to the program's text (the seventh form; the later family's looks); each row that meets fmt, with fmt's text TOLD by the authors' own Lean function (tested against real Go, not proved from fmt's source: count such statements apart). THE CARD IS WHAT COUNTS. Prove the row's statement (the work); the ties are given (YbulkdbqDoorTie.lean); close each card by the builder's one call (the guide's Derived/Test/ToyasCard.lean, 'card_holds'). Laid BY PROGRAM, IN A SANDBOX (cutbox-door.mjs). By AI agents, Wed Nov 11 2026. No macro, syntax, notation, axiom, sorry.
-/
import Derived.Test.YbulkdbqDoorRows
import GoSem.ClaimSeven
namespace Go.Proofs.YbulkdbqDoor
namespace Rows

/-- THE TIED CARD OF 'master.LawS0198AReason'. -/
def lawS0198AReasonCard : Claim7 := { stood := { row := lawS0198AReasonRow, standIns := [], harness := (true, "04d9e3f19749c5b636fb4720ed62947211ac6f5293fad47eef9b02a694580b17"), looks := false }, kinds := [], alts := [], laidByText := true, laidKinds := [.data, .data, .data], laidTests := true, laidLooks := .later }
def LawS0198AReasonCardSaid : Prop := Claim7.holds Ybad.pinned (.plain (OpenSpec.ofChange lawS0198AReasonSpec)) lawS0198AReasonCard
end Rows
end Go.Proofs.YbulkdbqDoor
