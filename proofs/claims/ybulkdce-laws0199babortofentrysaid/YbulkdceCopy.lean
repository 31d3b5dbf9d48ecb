import Derived.Test.YbulkdceRows
import Derived.WalkKit
import Derived.WalkSpells
import Derived.ProofKit
import Derived.Laws.CopyOwn
import Derived.Below
namespace Go.Proofs.Ybulkdce
open Go.RowKit

theorem Yba.info3 : (Yba.prog.info? 3).map (fun i => (i.zero, i.size, i.bytes)) = some (some (.int .i64 0), 1, 8) := by kernel_rfl
theorem Yba.size3 : (Yba.prog.info? 3).map (·.size) = some 1 := by kernel_rfl

set_option maxHeartbeats 400000 in
theorem copy_nil (w : World) : Calls Yba.prog 5 #[.slice none 0 0] w fun e w' => e = .returned (.slice none 0 0) ∧ w' = w := by
  have hn := fun w' => Lib.run_eql_slice_nil (P := Yba.prog) w' 22 3 none 0 0 0 0 Yba.underlying22
  go_enter Yba.func5, Yba.ntmps5
  go_wp2
  go_ret
  exact ⟨rfl, rfl⟩

set_option maxHeartbeats 400000 in
set_option maxRecDepth 100000 in
theorem copy_any (x : Addr) (len cap : Nat) (zs : List Int) (w : World) (hlen : len ≤ 1024) (hl : len ≤ zs.length)
    (hcell : ∀ i, i < zs.length → w.cell? (x.add i) = some (.int .i64 (zs.getD i 0))) :
    Calls Yba.prog 5 #[.slice (some x) len cap] w fun e w' => e = .returned (.slice (some ⟨w.heap.size, 0, none⟩) len len) ∧
      w'.heap[w.heap.size]? = some (.cells ((zs.take len).map (Value.int .i64)).toArray 3 (0, 0)) ∧ Below w.heap.size w w' := by
  have hn := fun w' => Lib.run_eql_slice_nil (P := Yba.prog) w' 22 3 (some x) len cap 0 0 Yba.underlying22
  obtain ⟨i0, hi, hz0, hz1, hz2⟩ := info_parts Yba.info3
  have hmk := fun w' => run_make (P := Yba.prog) w' 22 3 i0 (.int .i64 0) Yba.underlying22 hi hz0 .i64 .i64 len len (by omega) (by omega) (by rw [hz2]; omega) (by omega)
  have hlt : ∀ j, j < len → (x.add j).block < w.heap.size := fun j hj => World.block_lt_of_cell? _ _ (hcell j (by omega))
  have hcp := run_copy_row (P := Yba.prog) (w.alloc (.cells (madeCells #[.int .i64 0] len) 3)) 22 22 3 3 w.heap.size 0 len len x len cap (madeCells #[.int .i64 0] len) 3 ((zs.take len).map (Value.int .i64)) Yba.underlying22 Yba.size3
    (heap_alloc_new _ _) (by simp; omega)
    (fun j v hj => by
      rw [List.getElem?_map] at hj
      have hjl : j < len := by
        by_cases h : j < len
        · exact h
        · rw [List.getElem?_eq_none (by simp; omega)] at hj; simp at hj
      rw [World.cell?_alloc_lt _ _ _ (hlt j hjl), hcell j (by omega), ← hj, List.getElem?_take_of_lt hjl, List.getElem?_eq_getElem (by omega)]
      simp [show j < zs.length by omega])
    (by simp [size_madeCells]; omega)
    (by intro v hv; obtain ⟨a, _, rfl⟩ := List.mem_map.1 hv; rfl)
  have hfin : (List.take 0 (madeCells #[Value.int .i64 0] len).toList ++ (zs.take len).map (Value.int .i64) ++ List.drop (0 + ((zs.take len).map (Value.int .i64)).length) (madeCells #[Value.int .i64 0] len).toList) = (zs.take len).map (Value.int .i64) := by
    have : (madeCells #[Value.int .i64 0] len).toList.length = len := by simp [size_madeCells]
    rw [List.drop_of_length_le (by simp [size_madeCells]; omega)]; simp
  rw [hfin] at hcp
  clear hfin
  generalize (zs.take len).map (Value.int .i64) = cs at *
  go_enter Yba.func5, Yba.ntmps5
  go_wp2
  go_ret
  exact ⟨rfl, setRow_heap _ _ _ _ 3 _ (heap_alloc_new _ _), below_setRow ((Below.refl _ _).alloc (Nat.le_refl _) _) (Nat.le_refl _) _⟩

set_option maxHeartbeats 400000 in
theorem item_neg (p : Value) (e : Int) (w : World) (h : e < 0) :
    Calls Yba.prog 6 #[p, .int .i32 e] w fun r w' => r = .returned (.int .i64 0) ∧ w' = w := by
  go_enter Yba.func6, Yba.ntmps6
  go_wp2
  go_ret
  exact ⟨rfl, rfl⟩

set_option maxHeartbeats 400000 in
set_option maxRecDepth 100000 in
theorem item_pos (b : Nat) (e : Int) (w : World) (g len cap : Nat) (z : Int) (_hlen : len ≤ 1024) (h0 : 0 ≤ e) (he : e < len)
    (hp : w.cell? ⟨b, 8, none⟩ = some (.slice (some ⟨g, 0, none⟩) len cap)) (hc : w.cell? ⟨g, e.toNat, none⟩ = some (.int .i64 z)) :
    Calls Yba.prog 6 #[.pointer (some ⟨b, 0, none⟩), .int .i32 e] w fun r w' => r = .returned (.int .i64 z) ∧ w' = w := by
  go_enter Yba.func6, Yba.ntmps6
  go_wp2
  go_ret
  exact ⟨rfl, rfl⟩
end Go.Proofs.Ybulkdce
