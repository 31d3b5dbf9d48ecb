/-
  NARROWER THAN 'FOR EVERY INPUT', by the rows' own cells (each row's printed sentence says how): LawS0199CExact: laid · LawS0199CMonotone: laid.
  DERIVED. THE GIVEN ROWS OF THIS SEAT. 2 by the template 'for every input the law returns true; each argument reads behind the call as it read before'; 0 by the template 'total and deterministic' (their statements: YbulkdceDoorTotals.lean).
  GIVEN WITH THE SEED: the statements are not yours to turn. If you find one false, say at which input.
  Laid BY PROGRAM, IN A SANDBOX (cutbox-rows.mjs): the forced cells as the released guide's own fill.sh prints them over the translation 1952eb51cc079afa… (all of the seat's roots in one cut). By AI agents, Wed Nov 11 2026. No macro, syntax, notation, axiom, sorry.
-/
import Derived.Test.YbulkdceDoorChecked
import GoSem.Claim
import GoSem.ClaimJoined
import GoSem.ClaimMapViews
import Derived.JoinedTies
import Derived.KernelRfl
namespace Go.Proofs.YbulkdceDoor
/- THE CELL 'sum', in the pinned program and in every row, IS THE sha256 OF THE DUMP (.gsa) THAT YbulkdceDoorProg.lean LOADS. Nothing in Lean hashes anything: it is a label: what it is worth is what the hold of that sum in a sandbox is worth. -/
noncomputable def Ybad.pinned : Pinned := { name := "ybulkdcedoor", sum := "1952eb51cc079afa9e99543d858751ba64e3329d1d68d216d6d9a4c716012088", checked := Ybad.checked }
namespace Rows
def none {H : Type} : Left H := { results := [], args := [] }

/- WHAT THE LISTED PACKAGE-LEVEL VARIABLES READ AS WHEN THE CALL BEGINS. Each datum BY PROGRAM (the guide's laid-datum.mjs) off the statement by which the dump's own 'gosem.cut.vars' lays the variable. In a bare row this is a premise. The card (YbulkdceDoorCards.lean) ties it to the program's text. -/
def laid_example_com_escalon_escalon_lockModes {H : Type} : DataW H := .agg [.agg [.lit (.string []), .lit (.int .u8 0), .lit (.int .u8 0), .lit (.bool false), .lit (.int .u8 0)], .agg [.lit (.string [73, 83]), .lit (.int .u8 30), .lit (.int .u8 2), .lit (.bool true), .lit (.int .u8 6)], .agg [.lit (.string [73, 88]), .lit (.int .u8 6), .lit (.int .u8 6), .lit (.bool true), .lit (.int .u8 20)], .agg [.lit (.string [83]), .lit (.int .u8 10), .lit (.int .u8 10), .lit (.bool false), .lit (.int .u8 6)], .agg [.lit (.string [83, 73, 88]), .lit (.int .u8 2), .lit (.int .u8 30), .lit (.bool true), .lit (.int .u8 20)], .agg [.lit (.string [88]), .lit (.int .u8 0), .lit (.int .u8 62), .lit (.bool false), .lit (.int .u8 20)]]

/-- 'escalon.LawS0199CExact': WHATEVER THE INPUT: true; the input reads as it did. -/
def lawS0199CExactSpec : ChangeSpec := { name := "lawS0199CExact", vars := ["example.com/escalon/escalon.lockModes"], fn := fun _ => fun
  | [d, g1] => { results := [.lit (.bool true)], args := [d], vars := [g1] }
  | _ => none }
def lawS0199CExactRow : OpenClaim := { program := "ybulkdcedoor", sum := "1952eb51cc079afa9e99543d858751ba64e3329d1d68d216d6d9a4c716012088", func := "example.com/escalon/escalon.LawS0199CExact", spec := "lawS0199CExact", named := ["example.com/escalon/escalon.lockModes"], apart := false, laid := [("example.com/escalon/escalon.lockModes", laid_example_com_escalon_escalon_lockModes)] }
def LawS0199CExactSaid : Prop := lawS0199CExactRow.holds Ybad.pinned (OpenSpec.ofChange lawS0199CExactSpec)

/-- ITS FALSE NEIGHBOUR: 'it returns false'. Refute it at one input. -/
def lawS0199CExactWrong : ChangeSpec := { name := "lawS0199CExact", vars := ["example.com/escalon/escalon.lockModes"], fn := fun _ => fun
  | [d, g1] => { results := [.lit (.bool false)], args := [d], vars := [g1] }
  | _ => none }
def LawS0199CExactWrongFalsely : Prop := lawS0199CExactRow.holds Ybad.pinned (OpenSpec.ofChange lawS0199CExactWrong)

/-- 'escalon.LawS0199CMonotone': WHATEVER THE INPUT: true; the input reads as it did. -/
def lawS0199CMonotoneSpec : ChangeSpec := { name := "lawS0199CMonotone", vars := ["example.com/escalon/escalon.lockModes"], fn := fun _ => fun
  | [d1, d2, g1] => { results := [.lit (.bool true)], args := [d1, d2], vars := [g1] }
  | _ => none }
def lawS0199CMonotoneRow : OpenClaim := { program := "ybulkdcedoor", sum := "1952eb51cc079afa9e99543d858751ba64e3329d1d68d216d6d9a4c716012088", func := "example.com/escalon/escalon.LawS0199CMonotone", spec := "lawS0199CMonotone", named := ["example.com/escalon/escalon.lockModes"], apart := false, laid := [("example.com/escalon/escalon.lockModes", laid_example_com_escalon_escalon_lockModes)] }
def LawS0199CMonotoneSaid : Prop := lawS0199CMonotoneRow.holds Ybad.pinned (OpenSpec.ofChange lawS0199CMonotoneSpec)

/-- ITS FALSE NEIGHBOUR: 'it returns false'. Refute it at one input. -/
def lawS0199CMonotoneWrong : ChangeSpec := { name := "lawS0199CMonotone", vars := ["example.com/escalon/escalon.lockModes"], fn := fun _ => fun
  | [d1, d2, g1] => { results := [.lit (.bool false)], args := [d1, d2], vars := [g1] }
  | _ => none }
def LawS0199CMonotoneWrongFalsely : Prop := lawS0199CMonotoneRow.holds Ybad.pinned (OpenSpec.ofChange lawS0199CMonotoneWrong)

end Rows
end Go.Proofs.YbulkdceDoor
