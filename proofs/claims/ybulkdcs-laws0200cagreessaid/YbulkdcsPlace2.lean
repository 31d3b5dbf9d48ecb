import Derived.Test.YbulkdcsPlace
import Derived.Deep.RegionWith
namespace Go.Proofs.Ybulkdcs
open Go.Shelf Go.RowKit Go.Lib Go.Sort
set_option linter.unusedVariables false
set_option linter.unusedSimpArgs false

/-- A placement's block. -/
def PlO (n : Int) (v1 v2 v3 v4 v5 v6 v7 v8 : Value) : Obj := .cells #[.int .i64 n, v1, v2, v3, v4, v5, v6, v7, v8] 62 (0, 0)

theorem set_block {w : World} {bl : Nat} {C : Array Value} {t : TypeId} {o : Nat} (h : w.heap[bl]? = some (.cells C t (0, 0))) (v : Value) : (w.setCell ⟨bl, o, none⟩ v).heap[bl]? = some (.cells (C.setIfInBounds o v) t (0, 0)) := by
  simp only [World.setCell, Array.getElem?_modify, if_true, h]
  rfl

theorem alloc_block {w : World} {bl : Nat} {o : Obj} (h : w.heap[bl]? = some o) (o' : Obj) : (w.alloc o').heap[bl]? = some o :=
  (Below.heap_alloc _ _ _ (Array.getElem?_eq_some_iff.1 h).1).trans h

theorem add0_block {w : World} {bl : Nat} {v1 v2 v3 v4 v5 v6 v7 v8 a b c d : Value} (h : w.heap[bl]? = some (PlO 0 v1 v2 v3 v4 v5 v6 v7 v8)) :
    (((((w.setCell ⟨bl, 1, none⟩ a).setCell ⟨bl, 2, none⟩ b).setCell ⟨bl, 3, none⟩ c).setCell ⟨bl, 4, none⟩ d).setCell ⟨bl, 0, none⟩ (.int .i64 2)).heap[bl]? = some (PlO 2 a b c d v5 v6 v7 v8) := by
  rw [set_block (set_block (set_block (set_block (set_block h _) _) _) _) _]
  rfl

set_option maxHeartbeats 4000000 in
set_option maxRecDepth 100000 in
theorem add_0 (bl : Nat) (a b c d : Int) (v1 v2 v3 v4 v5 v6 v7 v8 : Value) (w : World) (h : w.heap[bl]? = some (PlO 0 v1 v2 v3 v4 v5 v6 v7 v8)) :
    Calls Yba.prog 18 #[.pointer (some ⟨bl, 0, none⟩), .agg #[.int .u64 a, .int .u64 b], .agg #[.int .u64 c, .int .u64 d]] w fun e w' => e = .returned (.tuple #[]) ∧
      w'.heap[bl]? = some (PlO 2 (.int .u64 a) (.int .u64 b) (.int .u64 c) (.int .u64 d) v5 v6 v7 v8) ∧ GrX bl w w' := by
  have hlt : bl < w.heap.size := (Array.getElem?_eq_some_iff.1 h).1
  have k0 : w.cell? ⟨bl, 0, none⟩ = some (.int .i64 0) := by simp [World.cell?, h, PlO]
  have k1 : w.cell? ⟨bl, 1, none⟩ = some v1 := by simp [World.cell?, h, PlO]
  have k2 : w.cell? ⟨bl, 2, none⟩ = some v2 := by simp [World.cell?, h, PlO]
  have k3 : w.cell? ⟨bl, 3, none⟩ = some v3 := by simp [World.cell?, h, PlO]
  have k4 : w.cell? ⟨bl, 4, none⟩ = some v4 := by simp [World.cell?, h, PlO]
  have f : ∀ o, w.frozen? ⟨bl, o, none⟩ = false := fun o => by simp [World.frozen?, h, PlO]
  have HH := hide h
  clear h
  go_enter Yba.func18, Yba.ntmps18
  go_wp2
  go_region
  all_goals go_wp2
  all_goals go_end0
  all_goals exact ⟨rfl, alloc_block (alloc_block (add0_block HH.out) _) _,
    ((GrX.set _ _ _).trans ((GrX.set _ _ _).trans ((GrX.set _ _ _).trans ((GrX.set _ _ _).trans (GrX.set _ _ _))))).trans (GrX.of_gr (((Gr.refl _).alloc _).alloc _).drew)⟩

theorem add2_block {w : World} {bl : Nat} {v1 v2 v3 v4 v5 v6 v7 v8 a b c d : Value} (h : w.heap[bl]? = some (PlO 2 v1 v2 v3 v4 v5 v6 v7 v8)) :
    (((((w.setCell ⟨bl, 5, none⟩ a).setCell ⟨bl, 6, none⟩ b).setCell ⟨bl, 7, none⟩ c).setCell ⟨bl, 8, none⟩ d).setCell ⟨bl, 0, none⟩ (.int .i64 4)).heap[bl]? = some (PlO 4 v1 v2 v3 v4 a b c d) := by
  rw [set_block (set_block (set_block (set_block (set_block h _) _) _) _) _]
  rfl

set_option maxHeartbeats 4000000 in
set_option maxRecDepth 100000 in
theorem add_2 (bl : Nat) (a b c d : Int) (v1 v2 v3 v4 v5 v6 v7 v8 : Value) (w : World) (h : w.heap[bl]? = some (PlO 2 v1 v2 v3 v4 v5 v6 v7 v8)) :
    Calls Yba.prog 18 #[.pointer (some ⟨bl, 0, none⟩), .agg #[.int .u64 a, .int .u64 b], .agg #[.int .u64 c, .int .u64 d]] w fun e w' => e = .returned (.tuple #[]) ∧
      w'.heap[bl]? = some (PlO 4 v1 v2 v3 v4 (.int .u64 a) (.int .u64 b) (.int .u64 c) (.int .u64 d)) ∧ GrX bl w w' := by
  have hlt : bl < w.heap.size := (Array.getElem?_eq_some_iff.1 h).1
  have k0 : w.cell? ⟨bl, 0, none⟩ = some (.int .i64 2) := by simp [World.cell?, h, PlO]
  have k1 : w.cell? ⟨bl, 5, none⟩ = some v5 := by simp [World.cell?, h, PlO]
  have k2 : w.cell? ⟨bl, 6, none⟩ = some v6 := by simp [World.cell?, h, PlO]
  have k3 : w.cell? ⟨bl, 7, none⟩ = some v7 := by simp [World.cell?, h, PlO]
  have k4 : w.cell? ⟨bl, 8, none⟩ = some v8 := by simp [World.cell?, h, PlO]
  have f : ∀ o, w.frozen? ⟨bl, o, none⟩ = false := fun o => by simp [World.frozen?, h, PlO]
  have HH := hide h
  clear h
  go_enter Yba.func18, Yba.ntmps18
  go_wp2
  go_region
  all_goals go_wp2
  all_goals go_end0
  all_goals exact ⟨rfl, alloc_block (alloc_block (add2_block HH.out) _) _,
    ((GrX.set _ _ _).trans ((GrX.set _ _ _).trans ((GrX.set _ _ _).trans ((GrX.set _ _ _).trans (GrX.set _ _ _))))).trans (GrX.of_gr (((Gr.refl _).alloc _).alloc _).drew)⟩

/-- A placement as a value: the number of positions, and four of them. -/
def plO : List Int → Obj
  | [a, b] => PlO 2 (.int .u64 (a / 18446744073709551616)) (.int .u64 (a % 18446744073709551616)) (.int .u64 (b / 18446744073709551616)) (.int .u64 (b % 18446744073709551616)) (.int .u64 0) (.int .u64 0) (.int .u64 0) (.int .u64 0)
  | [a, b, c, d] => PlO 4 (.int .u64 (a / 18446744073709551616)) (.int .u64 (a % 18446744073709551616)) (.int .u64 (b / 18446744073709551616)) (.int .u64 (b % 18446744073709551616)) (.int .u64 (c / 18446744073709551616)) (.int .u64 (c % 18446744073709551616)) (.int .u64 (d / 18446744073709551616)) (.int .u64 (d % 18446744073709551616))
  | _ => PlO 0 (.int .u64 0) (.int .u64 0) (.int .u64 0) (.int .u64 0) (.int .u64 0) (.int .u64 0) (.int .u64 0) (.int .u64 0)

/-- add, at positions. -/
theorem addP_0 (bl : Nat) (x y : Int) (w : World) (h : w.heap[bl]? = some (plO [])) :
    Calls Yba.prog 18 #[.pointer (some ⟨bl, 0, none⟩), posV x, posV y] w fun e w' => e = .returned (.tuple #[]) ∧ w'.heap[bl]? = some (plO [x, y]) ∧ GrX bl w w' :=
  add_0 bl _ _ _ _ _ _ _ _ _ _ _ _ w h
theorem addP_2 (bl : Nat) (p q x y : Int) (w : World) (h : w.heap[bl]? = some (plO [p, q])) :
    Calls Yba.prog 18 #[.pointer (some ⟨bl, 0, none⟩), posV x, posV y] w fun e w' => e = .returned (.tuple #[]) ∧ w'.heap[bl]? = some (plO [p, q, x, y]) ∧ GrX bl w w' :=
  add_2 bl _ _ _ _ _ _ _ _ _ _ _ _ w h

end Go.Proofs.Ybulkdcs
