/-
  No cell of these rows narrows 'for every input' (looked for: loops, veiled, ifaces, maps, wideKeys, modest, calm, conditions, laid).
  DERIVED. THE GIVEN ROWS OF THIS SEAT. 1 by the template 'for every input the law returns true; each argument reads behind the call as it read before'; 0 by the template 'total and deterministic' (their statements: YbulkdcsTotals.lean).
  GIVEN WITH THE SEED: the statements are not yours to turn. If you find one false, say at which input.
  Laid BY PROGRAM, IN A SANDBOX (cutbox-rows.mjs): the forced cells as the released guide's own fill.sh prints them over the translation f7be3c24d7093dd8… (all of the seat's roots in one cut). By AI agents, Wed Nov 11 2026. No macro, syntax, notation, axiom, sorry.
-/
import Derived.Test.YbulkdcsChecked
import GoSem.Claim
import GoSem.ClaimJoined
import GoSem.ClaimMapViews
import Derived.JoinedTies
import Derived.KernelRfl
namespace Go.Proofs.Ybulkdcs
/- THE CELL 'sum', in the pinned program and in every row, IS THE sha256 OF THE DUMP (.gsa) THAT YbulkdcsProg.lean LOADS. Nothing in Lean hashes anything: it is a label: what it is worth is what the hold of that sum in a sandbox is worth. -/
noncomputable def Yba.pinned : Pinned := { name := "ybulkdcs", sum := "f7be3c24d7093dd872f014b127a362c477cbe1223a137fa282ae99673d3d5417", checked := Yba.checked }
namespace Rows
def none {H : Type} : Left H := { results := [], args := [] }

/-- 'elf.LawS0200CAgrees': WHATEVER THE INPUT: true; the input reads as it did. -/
def lawS0200CAgreesSpec : ChangeSpec := { name := "lawS0200CAgrees", fn := fun _ => fun
  | [d1, d2, d3, d4] => { results := [.lit (.bool true)], args := [d1, d2, d3, d4] }
  | _ => none }
def lawS0200CAgreesRow : OpenClaim := { program := "ybulkdcs", sum := "f7be3c24d7093dd872f014b127a362c477cbe1223a137fa282ae99673d3d5417", func := "example.com/stratabin/stratabin/elf.LawS0200CAgrees", spec := "lawS0200CAgrees", inPlace := ["math/bits.Add64"], unfollowed := true, recurses := true, apart := false }
def LawS0200CAgreesSaid : Prop := lawS0200CAgreesRow.holds Yba.pinned (OpenSpec.ofChange lawS0200CAgreesSpec)

/-- ITS FALSE NEIGHBOUR: 'it returns false'. Refute it at one input. -/
def lawS0200CAgreesWrong : ChangeSpec := { name := "lawS0200CAgrees", fn := fun _ => fun
  | [d1, d2, d3, d4] => { results := [.lit (.bool false)], args := [d1, d2, d3, d4] }
  | _ => none }
def LawS0200CAgreesWrongFalsely : Prop := lawS0200CAgreesRow.holds Yba.pinned (OpenSpec.ofChange lawS0200CAgreesWrong)

end Rows
end Go.Proofs.Ybulkdcs
