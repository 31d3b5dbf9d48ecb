import Derived.Test.YbulkdceCopy
import Derived.Deep.QuietTactic
import Derived.BigQuiet
import Derived.OpenShut
import Derived.WalkSmall
namespace Go.Proofs.Ybulkdce
open Go.RowKit

/-- A slice of integers that came in: nil, or a row of cells. -/
def IsRow (k : IntKind) (w : World) (a : Option Addr) (len cap : Nat) (zs : List Int) : Prop :=
  (a = none ∧ len = 0 ∧ cap = 0 ∧ zs = []) ∨
  ∃ x, a = some x ∧ len ≤ cap ∧ cap ≤ maxLen ∧ zs.length = cap ∧ (∀ i, i < zs.length → w.cell? (x.add i) = some (.int k (zs.getD i 0))) ∧ ∀ n ∈ zs, (Lit.int k n).wf = true

theorem bcell {W w1 : World} (hb : Below W.heap.size W w1) : (∀ b o, b < W.heap.size → w1.cell? ⟨b, o, none⟩ = W.cell? ⟨b, o, none⟩) :=
  fun b o h => hb.cell (p := ⟨b, o, none⟩) h

/-- What the law reads: the argument's cell and the copy's, behind one new block more. -/
theorem reads {w w' : World} {len0 cap0 xb xo : Nat} {z0 : List Int} {k : Int} (hl : len0 ≤ cap0) (hz : z0.length = cap0) (_h3 : 0 < len0) (hk0 : 0 ≤ k) (hk1 : k < len0)
    (hxc : ∀ j, j < z0.length → w.cell? ⟨xb, xo + j, none⟩ = some (.int .i64 (z0.getD j 0)))
    (hblk : w'.heap[w.heap.size]? = some (.cells ((z0.take len0).map (Value.int .i64)).toArray 3 (0, 0))) (hB : Below w.heap.size w w') :
    (∀ O, (w'.alloc O).cell? ⟨xb, xo + k.toNat, none⟩ = some (.int .i64 (z0.getD k.toNat 0))) ∧ (∀ O, (w'.alloc O).cell? ⟨w.heap.size, k.toNat, none⟩ = some (.int .i64 (z0.getD k.toNat 0))) := by
  have h := hxc k.toNat (by omega)
  have hlt : xb < w.heap.size := World.block_lt_of_cell? _ _ h
  have hw : w.heap.size < w'.heap.size := (Array.getElem?_eq_some_iff.1 hblk).1
  refine ⟨fun O => ?_, fun O => ?_⟩
  · rw [World.cell?_alloc_lt _ _ _ (show xb < w'.heap.size by omega), hB.cell (p := ⟨xb, xo + k.toNat, none⟩) hlt]; exact h
  · rw [World.cell?_alloc_lt _ _ _ (show w.heap.size < w'.heap.size by omega)]
    simp only [World.cell?, hblk]
    simp
    have e1 : (z0.take len0)[k.toNat]? = some (z0.getD k.toNat 0) := by
      rw [List.getElem?_take_of_lt (by omega), List.getElem?_eq_getElem (show k.toNat < z0.length by omega)]
      simp [show k.toNat < z0.length by omega]
    rw [← List.map_take, List.getElem?_map, e1]
    rfl

set_option maxHeartbeats 1000000 in
set_option maxRecDepth 100000 in
theorem walkItem (a0 : Option Addr) (len0 cap0 : Nat) (z0 : List Int) (a1 : Int) (a2 : Bool) (w : World) (w0 : IsRow .i64 w a0 len0 cap0 z0) (w1 : (Lit.int .u32 a1).wf = true) :
    Calls Yba.prog 3 #[.slice a0 len0 cap0, .int .u32 a1, .bool a2] w fun e w' => e = .returned (.bool true) ∧ Below w.heap.size w w' := by
  obtain ⟨hb0, hb1⟩ := bounds_u32 w1
  rcases w0 with ⟨rfl, rfl, rfl, rfl⟩ | ⟨x, rfl, hl, hm, hz, hcell, -⟩
  · cases a2
    all_goals
      go_enter Yba.func3, Yba.ntmps3
      go_wp2_with (first | (go_at_call 5; refine (copy_nil _).mono ?_; rintro e w' ⟨rfl, rfl⟩) | (go_at_call 6; refine (item_neg _ _ _ (by omega)).mono ?_; rintro e w' ⟨rfl, rfl⟩))
      go_ret
      exact ⟨rfl, (Below.refl _ _).alloc (Nat.le_refl _) _⟩
  unfold maxLen at hm
  by_cases hlen : len0 ≤ 1024
  case neg =>
    go_enter Yba.func3, Yba.ntmps3
    go_wp2_with fail
    go_ret
    exact ⟨rfl, Below.refl _ _⟩
  have hcp := copy_any x len0 cap0 z0 w hlen (by omega) hcell
  by_cases hneg : a2 = true ∨ len0 = 0
  · have hc : (a2 || decide (len0 = 0)) = true := by simpa using hneg
    rcases hneg with rfl | rfl
    · go_enter Yba.func3, Yba.ntmps3
      go_wp2_with (first | (go_at_call 5; refine hcp.mono ?_; rintro e w' ⟨rfl, hblk, hB⟩) | (go_at_call 6; refine (item_neg _ _ _ (by omega)).mono ?_; rintro e w' ⟨rfl, rfl⟩))
      go_ret
      exact ⟨rfl, hB.alloc hB.size _⟩
    · cases a2
      all_goals
        go_enter Yba.func3, Yba.ntmps3
        go_wp2_with (first | (go_at_call 5; refine hcp.mono ?_; rintro e w' ⟨rfl, hblk, hB⟩) | (go_at_call 6; refine (item_neg _ _ _ (by omega)).mono ?_; rintro e w' ⟨rfl, rfl⟩))
        go_ret
        exact ⟨rfl, hB.alloc hB.size _⟩
  · obtain ⟨h2, h3⟩ : a2 = false ∧ 0 < len0 := ⟨by cases a2 <;> simp_all, by omega⟩
    subst h2
    clear hneg
    obtain ⟨xb, xo, rfl, hxc⟩ := ints_at hcell (by omega)
    clear hcell
    have hk0 : 0 ≤ a1 % len0 := Int.emod_nonneg _ (by omega)
    have hk1 : a1 % len0 < len0 := Int.emod_lt_of_pos _ (by omega)
    go_enter Yba.func3, Yba.ntmps3
    go_wp2_with (first | (go_at_call 5; refine hcp.mono ?_; rintro e w' ⟨rfl, hblk, hB⟩))
    obtain ⟨hxz, hcz⟩ := reads (w := w) (w' := w') hl hz h3 hk0 hk1 hxc hblk hB
    clear hcp hxc hblk hz hm
    generalize z0.getD (a1 % len0).toNat 0 = zv at *
    go_quiet ((go_at_call 6; exact Calls.quiet_of_same (item_pos _ _ _ w.heap.size len0 len0 zv hlen hk0 hk1 (by simp) (hcz _))))
    go_wp2
    go_ret
    exact ⟨rfl, below_drewN (hB.alloc hB.size _) _⟩
end Go.Proofs.Ybulkdce
