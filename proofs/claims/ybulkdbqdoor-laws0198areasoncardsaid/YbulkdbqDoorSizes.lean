import Derived.Test.YbulkdbqDoorRows
import Derived.Test.YbulkdbqDoorPlain
import Derived.WalkKit
import Derived.WalkSpells
import Derived.WalkSmall
import Derived.ProofKit
import Derived.OpenShut
import Derived.Below
namespace Go.Proofs.YbulkdbqDoor
open Go.RowKit
set_option linter.unusedVariables false
set_option linter.unusedSimpArgs false

theorem Ybad.info49 : (Ybad.prog.info? 49).map (fun i => (i.zero, i.size, i.bytes)) = some (some (.agg #[.int .i64 0, .int .i64 0]), 2, 16) := by kernel_rfl

/-- A size's two cells, one size behind another. -/
def cellsOf (l : List (Int × Int)) : List Value := l.flatMap fun p => [.int .i64 p.1, .int .i64 p.2]

theorem cellsOf_snoc (l : List (Int × Int)) (p : Int × Int) : cellsOf (l ++ [p]) = cellsOf l ++ [.int .i64 p.1, .int .i64 p.2] := by simp [cellsOf]

theorem cellsOf_length (l : List (Int × Int)) : (cellsOf l).length = l.length * 2 := by
  induction l with
  | nil => rfl
  | cons a t ih => simp [cellsOf] at ih ⊢; omega

theorem cellsOf_at (l : List (Int × Int)) : ∀ (j : Nat), j < l.length → (cellsOf l)[j * 2]? = some (.int .i64 (l.getD j (0, 0)).1) ∧ (cellsOf l)[j * 2 + 1]? = some (.int .i64 (l.getD j (0, 0)).2) := by
  induction l with
  | nil => intro j hj; simp at hj
  | cons a t ih =>
    intro j hj
    cases j with
    | zero => simp [cellsOf]
    | succ j =>
      have := ih j (by simpa using hj)
      have e : cellsOf (a :: t) = .int .i64 a.1 :: .int .i64 a.2 :: cellsOf t := by simp [cellsOf]
      rw [e]
      have e2 : (j + 1) * 2 = j * 2 + 1 + 1 := by omega
      rw [e2]
      simpa using this

theorem getD_take_succ (zs : List (Int × Int)) (k : Nat) (h : k < zs.length) : zs.take (k + 1) = zs.take k ++ [zs.getD k (0, 0)] := by
  rw [List.take_succ_eq_append_getElem h]; simp [List.getElem?_eq_getElem h]

theorem hide {p : Prop} (h : p) : Hid p := h

/-- A row of pairs of int32 that lies in memory. -/
def Pairs (w : World) (b off len : Nat) (zs : List (Int × Int)) : Prop :=
  ∀ j, j < len → w.cell? ⟨b, off + j * 2, none⟩ = some (.int .i32 (zs.getD j (0, 0)).1) ∧ w.cell? ⟨b, off + j * 2 + 1, none⟩ = some (.int .i32 (zs.getD j (0, 0)).2)
def In32 (zs : List (Int × Int)) : Prop := ∀ j, -2147483648 ≤ (zs.getD j (0, 0)).1 ∧ (zs.getD j (0, 0)).1 ≤ 2147483647 ∧ -2147483648 ≤ (zs.getD j (0, 0)).2 ∧ (zs.getD j (0, 0)).2 ≤ 2147483647

set_option maxHeartbeats 400000 in
theorem sizes_nil (w : World) : Calls Ybad.prog 4 #[.slice none 0 0] w fun e w' => e = .returned (.slice none 0 0) ∧ w' = w := by
  have hn := fun w' => Lib.run_eql_slice_nil (P := Ybad.prog) w' 22 51 none 0 0 0 0 Ybad.underlying22
  go_enter Ybad.func4, Ybad.ntmps4
  go_wp2
  go_ret
  exact ⟨rfl, rfl⟩

set_option maxHeartbeats 1000000 in
set_option maxRecDepth 100000 in
theorem sizes_any (b off len cap : Nat) (zs : List (Int × Int)) (w : World) (hlen : len ≤ 1024) (hz : zs.length = len) (hp : Pairs w b off len zs) (h32 : In32 zs) :
    Calls Ybad.prog 4 #[.slice (some ⟨b, off, none⟩) len cap] w fun e w' => e = .returned (.slice (some ⟨w.heap.size, 0, none⟩) len len) ∧
      w'.ownsRow w.heap.size 49 2 (.slice (some ⟨w.heap.size, 0, none⟩) len len) len (cellsOf zs) ∧ Below w.heap.size w w' := by
  have hn := fun w' => Lib.run_eql_slice_nil (P := Ybad.prog) w' 22 51 (some ⟨b, off, none⟩) len cap 0 0 Ybad.underlying22
  obtain ⟨i0, hi, hz0, hz1, hz2⟩ := info_parts Ybad.info49
  go_enter Ybad.func4, Ybad.ntmps4
  go_wp2_with (at_make; refine wpList_make_own _ rfl _ _ 44 rfl w.heap.size 49 i0 _ 2 Ybad.underlying44 hi hz0 hz1 _ _ _ len rfl rfl rfl (by rw [hz2]; omega) (by unfold maxLen; omega) (Nat.le_refl _) ?_; intro w1 hown1 hg1)
  go_loopw [3, 13] (fun v i wr => ∃ k : Nat, k ≤ len ∧ i = .int .i64 k ∧ v = .slice (some ⟨w.heap.size, 0, none⟩) k len ∧ wr.ownsRow w.heap.size 49 2 (.slice (some ⟨w.heap.size, 0, none⟩) k len) k (cellsOf (zs.take k)) ∧ Below w.heap.size w wr) (fun _ i _ => len - (intOf i).toNat)
  case atStart => exact ⟨0, Nat.zero_le _, rfl, rfl, hown1, (Below.refl _ _).grown hg1 (Nat.le_refl _) (fun k hk => by cases hk)⟩
  case round =>
    obtain ⟨k, hk, rfl, rfl, hown, hnx⟩ := hrel
    by_cases hlt : k < len
    · obtain ⟨c0, c1⟩ := hp k hlt
      have hb : b < w.heap.size := World.block_lt_of_cell? _ _ c0
      rw [← hnx.cell (p := ⟨b, off + k * 2, none⟩) hb] at c0
      rw [← hnx.cell (p := ⟨b, off + k * 2 + 1, none⟩) hb] at c1
      obtain ⟨b1, b2, b3, b4⟩ := h32 k
      have HT := hide (getD_take_succ zs k (by omega))
      generalize zs.getD k (0, 0) = pr at *
      obtain ⟨p1, p2⟩ := pr
      simp only at c0 c1 b1 b2 b3 b4
      have hs0 := hnx.size
      go_wp2_with (at_builtin; refine wpList_append_fits _ rfl (.tmp 17) (.tmp 25) 44 rfl w.heap.size 49 i0 2 Ybad.underlying44 hi hz1 w.heap.size k len _ rfl ((hown.alloc _).alloc _) ⟨wr.heap.size + 1, 0, none⟩ 1 1 [.int .i64 p1, .int .i64 p2] rfl rfl ?c1 ?c2 (by omega) ?_)
      case c1 =>
        intro j u hj
        match j, hj with
        | 0, hj => simp at hj; subst hj; simp [Addr.add]
        | 1, hj => simp at hj; subst hj; simp [Addr.add]
      case c2 => intro u hu; simp at hu; rcases hu with rfl | rfl <;> rfl
      intro w3 hown3 hg3
      have hnx3 : Below w.heap.size w w3 := ((hnx.alloc hnx.size _).alloc (by simp; omega) _).grown hg3 (by simp; omega) (fun j hj => by cases hj; exact Nat.le_refl _)
      clear hown hg3 hown1 hg1 c0 c1
      go_wp2
      go_roundw
      case rel =>
        refine ⟨k + 1, by omega, by go_num, rfl, ?_, hnx3⟩
        rw [HT.out, cellsOf_snoc]; exact hown3
      case measure => simp [intOf]; omega
    · go_wp2
      go_ret
      obtain rfl : k = len := by omega
      rw [List.take_of_length_le (by omega)] at hown
      exact ⟨rfl, hown, hnx⟩
end Go.Proofs.YbulkdbqDoor
