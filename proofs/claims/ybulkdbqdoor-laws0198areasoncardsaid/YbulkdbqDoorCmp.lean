import Derived.Test.YbulkdbqDoorSizes
import Derived.Sort.Grow
namespace Go.Proofs.YbulkdbqDoor
open Go.RowKit Go.Sort
set_option linter.unusedVariables false
set_option linter.unusedSimpArgs false

/-- What roomOf's comparison gives, on plain numbers. -/
def cmpI (a b c d : Int) : Int := if c - a = 0 then d - b else c - a

set_option maxHeartbeats 400000 in
theorem closure9_int (a b c d : Int) (W : World) (ha : -2147483648 ≤ a ∧ a ≤ 2147483647) (hb : -2147483648 ≤ b ∧ b ≤ 2147483647) (hc : -2147483648 ≤ c ∧ c ≤ 2147483647) (hd : -2147483648 ≤ d ∧ d ≤ 2147483647) :
    Calls Ybad.prog 9 #[.agg #[.int .i64 a, .int .i64 b], .agg #[.int .i64 c, .int .i64 d]] W fun e w' => e = .returned (.int .i64 (cmpI a b c d)) ∧ ∃ q os', w' = grow (W.drewN q) os' := by
  obtain ⟨ha1, ha2⟩ := ha
  obtain ⟨hb1, hb2⟩ := hb
  obtain ⟨hc1, hc2⟩ := hc
  obtain ⟨hd1, hd2⟩ := hd
  unfold cmpI
  by_cases h : c - a = 0
  · rw [if_pos h]
    have h' : (c - a != 0) = false := by simpa using h
    clear h
    go_enter Ybad.func9, Ybad.ntmps9
    go_wp2
    go_ret
    exact ⟨rfl, 0, _, by rw [alloc_eq_grow, alloc_eq_grow, grow_grow]; rfl⟩
  · rw [if_neg h]
    have h' : (c - a != 0) = true := by simpa using h
    clear h
    go_enter Ybad.func9, Ybad.ntmps9
    go_wp2
    go_ret
    exact ⟨rfl, 0, _, by rw [alloc_eq_grow, alloc_eq_grow, grow_grow]; rfl⟩

set_option maxHeartbeats 400000 in
/-- '(s size) atLeast(t)'. -/
theorem atLeast_any (a b c d : Int) (w : World) :
    Calls Ybad.prog 19 #[.agg #[.int .i64 a, .int .i64 b], .agg #[.int .i64 c, .int .i64 d]] w fun e w' => e = .returned (.bool (Plain.geS (a, b) (c, d))) ∧ ∃ q os', w' = grow (w.drewN q) os' := by
  by_cases h1 : c ≤ a
  · by_cases h2 : d ≤ b
    all_goals
      go_enter Ybad.func19, Ybad.ntmps19
      go_wp2
      go_ret
      exact ⟨by simp [Plain.geS, h1, h2], 0, _, by rw [alloc_eq_grow, alloc_eq_grow, grow_grow]; rfl⟩
  · go_enter Ybad.func19, Ybad.ntmps19
    go_wp2
    go_ret
    exact ⟨by simp [Plain.geS]; intro h; omega, 0, _, by rw [alloc_eq_grow, alloc_eq_grow, grow_grow]; rfl⟩

set_option maxHeartbeats 1000000 in
set_option maxRecDepth 100000 in
/-- '(a *application) size()': the two fields; a new block for the result. -/
theorem size_any (bp : Nat) (c m : Int) (w : World) (hc : w.cell? ⟨bp, 9, none⟩ = some (.int .i64 c)) (hm : w.cell? ⟨bp, 10, none⟩ = some (.int .i64 m)) :
    Calls Ybad.prog 12 #[.pointer (some ⟨bp, 0, none⟩)] w fun e w' => e = .returned (.agg #[.int .i64 c, .int .i64 m]) ∧ Below w.heap.size w w' := by
  have hlt : bp < w.heap.size := World.block_lt_of_cell? _ _ hc
  go_enter Ybad.func12, Ybad.ntmps12
  go_wp2
  go_region
  all_goals go_wp2
  all_goals exact bodyPost_ret (v := .agg #[.int .i64 c, .int .i64 m]) (by simp [results, Ybad.results12, go_sem]) rfl ⟨rfl, (((Below.refl _ _).alloc (Nat.le_refl _) _).drew)⟩
end Go.Proofs.YbulkdbqDoor
