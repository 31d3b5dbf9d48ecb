/-
  No cell of these rows narrows 'for every input' (looked for: loops, veiled, ifaces, maps, wideKeys, modest, calm, conditions, laid).
  DERIVED. THE GIVEN ROWS OF THIS SEAT. 2 by the template 'for every input the law returns true; each argument reads behind the call as it read before'; 0 by the template 'total and deterministic' (their statements: YbulkdceTotals.lean).
  GIVEN WITH THE SEED: the statements are not yours to turn. If you find one false, say at which input.
  Laid BY PROGRAM, IN A SANDBOX (cutbox-rows.mjs): the forced cells as the released guide's own fill.sh prints them over the translation a3d52650d876652f… (all of the seat's roots in one cut). By AI agents, Wed Nov 11 2026. No macro, syntax, notation, axiom, sorry.
-/
import Derived.Test.YbulkdceChecked
import GoSem.Claim
import GoSem.ClaimJoined
import GoSem.ClaimMapViews
import Derived.JoinedTies
import Derived.KernelRfl
namespace Go.Proofs.Ybulkdce
/- THE CELL 'sum', in the pinned program and in every row, IS THE sha256 OF THE DUMP (.gsa) THAT YbulkdceProg.lean LOADS. Nothing in Lean hashes anything: it is a label: what it is worth is what the hold of that sum in a sandbox is worth. -/
noncomputable def Yba.pinned : Pinned := { name := "ybulkdce", sum := "a3d52650d876652f7a000a66a1737801a922c4c451a3122e90e8ec058ce5dd68", checked := Yba.checked }
namespace Rows
def none {H : Type} : Left H := { results := [], args := [] }

/-- 'escalon.LawS0199BItem': WHATEVER THE INPUT: true; the input reads as it did. -/
def lawS0199BItemSpec : ChangeSpec := { name := "lawS0199BItem", fn := fun _ => fun
  | [d1, d2, d3] => { results := [.lit (.bool true)], args := [d1, d2, d3] }
  | _ => none }
def lawS0199BItemRow : OpenClaim := { program := "ybulkdce", sum := "a3d52650d876652f7a000a66a1737801a922c4c451a3122e90e8ec058ce5dd68", func := "example.com/escalon/escalon.LawS0199BItem", spec := "lawS0199BItem", apart := false }
def LawS0199BItemSaid : Prop := lawS0199BItemRow.holds Yba.pinned (OpenSpec.ofChange lawS0199BItemSpec)

/-- ITS FALSE NEIGHBOUR: 'it returns false'. Refute it at one input. -/
def lawS0199BItemWrong : ChangeSpec := { name := "lawS0199BItem", fn := fun _ => fun
  | [d1, d2, d3] => { results := [.lit (.bool false)], args := [d1, d2, d3] }
  | _ => none }
def LawS0199BItemWrongFalsely : Prop := lawS0199BItemRow.holds Yba.pinned (OpenSpec.ofChange lawS0199BItemWrong)

/-- 'escalon.LawS0199BAbortOfEntry': WHATEVER THE INPUT: true; the input reads as it did. -/
def lawS0199BAbortOfEntrySpec : ChangeSpec := { name := "lawS0199BAbortOfEntry", fn := fun _ => fun
  | [d1, d2] => { results := [.lit (.bool true)], args := [d1, d2] }
  | _ => none }
def lawS0199BAbortOfEntryRow : OpenClaim := { program := "ybulkdce", sum := "a3d52650d876652f7a000a66a1737801a922c4c451a3122e90e8ec058ce5dd68", func := "example.com/escalon/escalon.LawS0199BAbortOfEntry", spec := "lawS0199BAbortOfEntry", apart := false }
def LawS0199BAbortOfEntrySaid : Prop := lawS0199BAbortOfEntryRow.holds Yba.pinned (OpenSpec.ofChange lawS0199BAbortOfEntrySpec)

/-- ITS FALSE NEIGHBOUR: 'it returns false'. Refute it at one input. -/
def lawS0199BAbortOfEntryWrong : ChangeSpec := { name := "lawS0199BAbortOfEntry", fn := fun _ => fun
  | [d1, d2] => { results := [.lit (.bool false)], args := [d1, d2] }
  | _ => none }
def LawS0199BAbortOfEntryWrongFalsely : Prop := lawS0199BAbortOfEntryRow.holds Yba.pinned (OpenSpec.ofChange lawS0199BAbortOfEntryWrong)

end Rows
end Go.Proofs.Ybulkdce
