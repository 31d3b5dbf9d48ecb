import Derived.Test.YbulkdcsPlace3
namespace Go.Proofs.Ybulkdcs
open Go.Shelf Go.RowKit Go.Lib Go.Sort
set_option linter.unusedVariables false
set_option linter.unusedSimpArgs false

def fstB (p : Seg) (k : Int) : Bool := kE k && (p.t == 2 || p.t == 4) && (p.ms != 0)
def fst (p : Seg) (k : Int) : Int := if fstB p k then 1 else 0
/-- Where a segment holds sections of a kind. -/
def roomL (p : Seg) (k : Int) : List Int := (if kN k then [p.off + fst p k, p.off + p.fs] else []) ++ (if kA k then [p.va + fst p k, p.va + p.ms] else [])

def segO (p : Seg) : Obj := .cells p.arr 26 (0, 0)
theorem seg_cells {w : World} {b : Nat} {p : Seg} (h : w.heap[b]? = some (segO p)) :
    w.cell? ⟨b, 0, none⟩ = some (.int .u32 p.t) ∧ w.cell? ⟨b, 1, none⟩ = some (.int .u32 p.fl) ∧ w.cell? ⟨b, 2, none⟩ = some (.int .u64 p.off) ∧ w.cell? ⟨b, 3, none⟩ = some (.int .u64 p.va) ∧
    w.cell? ⟨b, 4, none⟩ = some (.int .u64 p.pa) ∧ w.cell? ⟨b, 5, none⟩ = some (.int .u64 p.fs) ∧ w.cell? ⟨b, 6, none⟩ = some (.int .u64 p.ms) ∧ w.cell? ⟨b, 7, none⟩ = some (.int .u64 p.al) := by
  simp [World.cell?, h, segO, Seg.arr]

theorem roomW0 (w : World) (p : Seg) : ((w.alloc (segO p)).alloc (plO [])).heap[w.heap.size]? = some (segO p) := alloc_block (heap_alloc_new w _) _
theorem roomW1 (w : World) (o : Obj) : ((w.alloc o).alloc (plO [])).heap[w.heap.size + 1]? = some (plO []) := by
  have := heap_alloc_new (w.alloc o) (plO [])
  simpa using this
theorem roomW2 (w : World) (o o2 : Obj) : (((w.alloc o).alloc o2).alloc (plO [])).heap[w.heap.size + 2]? = some (plO []) := by
  have := heap_alloc_new ((w.alloc o).alloc o2) (plO [])
  simpa using this

end Go.Proofs.Ybulkdcs
