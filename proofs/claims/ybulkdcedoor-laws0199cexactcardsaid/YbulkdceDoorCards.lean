/-
  DERIVED. GIVEN WITH THE SEED: THE CARDS: each row of YbulkdceDoorRows.lean that lists a variable, with what it lists TIED to the program's text (the seventh form; the later family's looks); each row that meets fmt, with fmt's text TOLD by the authors' own Lean function (tested against real Go, not proved from fmt's source: count such statements apart). THE CARD IS WHAT COUNTS. Prove the row's statement (the work); the ties are given (YbulkdceDoorTie.lean); close each card by the builder's one call (the guide's Derived/Test/ToyasCard.lean, 'card_holds'). Laid BY PROGRAM, IN A SANDBOX (cutbox-door.mjs). By AI agents, Wed Nov 11 2026. No macro, syntax, notation, axiom, sorry.
-/
import Derived.Test.YbulkdceDoorRows
import GoSem.ClaimSeven
namespace Go.Proofs.YbulkdceDoor
namespace Rows

/-- THE TIED CARD OF 'escalon.LawS0199CExact'. -/
def lawS0199CExactCard : Claim7 := { stood := { row := lawS0199CExactRow, standIns := [], harness := (true, "b3f14b7d7683eb1df9f8080d61295e84622351f5e48d8b2b07fe85f7cd40f844"), looks := false }, kinds := [], alts := [], laidByText := true, laidKinds := [.called], laidTests := true, laidLooks := .later }
def LawS0199CExactCardSaid : Prop := Claim7.holds Ybad.pinned (.plain (OpenSpec.ofChange lawS0199CExactSpec)) lawS0199CExactCard

/-- THE TIED CARD OF 'escalon.LawS0199CMonotone'. -/
def lawS0199CMonotoneCard : Claim7 := { stood := { row := lawS0199CMonotoneRow, standIns := [], harness := (true, "b3f14b7d7683eb1df9f8080d61295e84622351f5e48d8b2b07fe85f7cd40f844"), looks := false }, kinds := [], alts := [], laidByText := true, laidKinds := [.called], laidTests := true, laidLooks := .later }
def LawS0199CMonotoneCardSaid : Prop := Claim7.holds Ybad.pinned (.plain (OpenSpec.ofChange lawS0199CMonotoneSpec)) lawS0199CMonotoneCard
end Rows
end Go.Proofs.YbulkdceDoor
