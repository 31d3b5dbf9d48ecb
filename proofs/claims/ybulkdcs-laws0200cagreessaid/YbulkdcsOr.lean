import Derived.Test.YbulkdcsCoord
import Derived.Deep.RegionHeld3
namespace Go.Proofs.Ybulkdcs
open Go.Shelf Go.RowKit Go.Lib Go.Sort
set_option linter.unusedVariables false
set_option linter.unusedSimpArgs false

set_option maxHeartbeats 4000000 in
set_option maxRecDepth 100000 in
theorem or_at (b : Nat) (x y r : Int) (w : World) (h0 : w.cell? ⟨b, 0, none⟩ = some (.int .i64 x)) (h1 : w.cell? ⟨b, 1, none⟩ = some (.int .i64 y)) (hr1 : x = 0 → r = y) (hr2 : x ≠ 0 → r = x) :
    Calls Yba.prog 30 #[.slice (some ⟨b, 0, none⟩) 2 2] w fun e w' => e = .returned (.int .i64 r) ∧ w' = w := by
  have H0 := hide h0
  have H1 := hide h1
  have R1 := hide hr1
  have R2 := hide hr2
  clear h0 h1 hr1 hr2
  go_enter Yba.func30, Yba.ntmps30
  go_wp2_with fail
  go_loopw [8] (fun s8 wr => ∃ k : Nat, k ≤ 2 ∧ s8 = .int .i64 k ∧ wr = w ∧ (0 < k → x = 0) ∧ (1 < k → y = 0)) (fun s8 _ => 2 - (intOf s8).toNat)
  case atStart => exact ⟨0, by omega, rfl, rfl, by omega, by omega⟩
  case round =>
    obtain ⟨k, hk, rfl, rfl, hx, hy⟩ := hrel
    have HX := hide hx
    have HY := hide hy
    clear hx hy
    by_cases k0 : k = 0
    · subst k0
      have h0 := H0.out
      by_cases hx : x = 0
      · have HX2 := hide hx
        rw [hx] at h0
        clear hx
        go_wp2_with fail
        go_roundw
        case rel => exact ⟨1, by omega, by go_num, by simp, fun _ => HX2.out, by omega⟩
        case measure => simp [intOf]
      · obtain rfl := R2.out hx
        have hxb : (r == 0) = false := by simpa using hx
        go_wp2_with fail
        go_ret
        exact ⟨rfl, rfl⟩
    · by_cases k1 : k = 1
      · subst k1
        have h1 := H1.out
        obtain rfl := R1.out (HX.out (by omega))
        by_cases hy : r = 0
        · have HY2 := hide hy
          rw [hy] at h1
          clear hy
          go_wp2_with fail
          go_roundw
          case rel => exact ⟨2, by omega, by go_num, by simp, fun _ => HX.out (by omega), fun _ => HY2.out⟩
          case measure => simp [intOf]
        · have hyb : (r == 0) = false := by simpa using hy
          go_wp2_with fail
          go_ret
          exact ⟨rfl, rfl⟩
      · obtain rfl : k = 2 := by omega
        obtain rfl : r = 0 := (R1.out (HX.out (by omega))).trans (HY.out (by omega))
        go_wp2_with fail
        go_ret
        exact ⟨rfl, rfl⟩

/-- The comparison of two by a coordinate, then by themselves. -/
def cfO (a : Nat → Int) (x y : Nat) : Int := if cmpI (a x) (a y) = 0 then cmpI x y else cmpI (a x) (a y)

set_option maxHeartbeats 8000000 in
set_option maxRecDepth 100000 in
theorem closure29 (b6 b10 b17 ab ln cap wd i x y : Nat) (a : Nat → Int) (w : World)
    (h6 : w.cell? ⟨b6, 0, none⟩ = some (.slice (some ⟨ab, 0, none⟩) ln cap)) (h10 : w.cell? ⟨b10, 0, none⟩ = some (.int .i64 wd)) (h17 : w.cell? ⟨b17, 0, none⟩ = some (.int .i64 i))
    (hx : w.cell? ⟨ab, x * wd + i, none⟩ = some (.int .i32 (a x))) (hy : w.cell? ⟨ab, y * wd + i, none⟩ = some (.int .i32 (a y))) (hxl : x * wd + i < ln) (hyl : y * wd + i < ln) (hln : ln ≤ 100000) (hx1 : x ≤ 512) (hy1 : y ≤ 512) (hw : wd ≤ 4) (hi : i < 4) :
    Calls Yba.prog 29 #[.int .i32 x, .int .i32 y, .pointer (some ⟨b6, 0, none⟩), .pointer (some ⟨b10, 0, none⟩), .pointer (some ⟨b17, 0, none⟩)] w fun e w' => e = .returned (.int .i64 (cfO a x y)) ∧ Gr w w' := by
  have bx : x * wd ≤ 2048 := Nat.le_trans (Nat.mul_le_mul hx1 hw) (by omega)
  have by_ : y * wd ≤ 2048 := Nat.le_trans (Nat.mul_le_mul hy1 hw) (by omega)
  have mx : (x : Int) * (wd : Int) = ((x * wd : Nat) : Int) := by simp
  have my : (y : Int) * (wd : Int) = ((y * wd : Nat) : Int) := by simp
  generalize x * wd = px at *
  generalize y * wd = py at *
  obtain ⟨qx, hqx⟩ : ∃ qx, qx = px + i := ⟨_, rfl⟩
  obtain ⟨qy, hqy⟩ : ∃ qy, qy = py + i := ⟨_, rfl⟩
  have sx : (px : Int) + (i : Int) = (qx : Int) := by omega
  have sy : (py : Int) + (i : Int) = (qy : Int) := by omega
  rw [← hqx] at hx hxl
  rw [← hqy] at hy hyl
  have hqx9 : qx ≤ 3000 := by omega
  have hqy9 : qy ≤ 3000 := by omega
  clear hqx hqy
  generalize hcf : cfO a x y = r
  have HR1 : Hid (cmpI (a x) (a y) = 0 → r = cmpI x y) := fun h => by rw [← hcf, cfO, if_pos h]
  have HR2 : Hid (cmpI (a x) (a y) ≠ 0 → r = cmpI (a x) (a y)) := fun h => by rw [← hcf, cfO, if_neg h]
  clear hcf
  generalize a x = ax at *
  generalize a y = ay at *
  have wr : ∀ n : Nat, n ≤ 3000 → IntKind.i64.wrap (n : Int) = n := fun n hn => by simp [IntKind.wrap, IntKind.bits, IntKind.signed]; omega
  have wx0 := wr x (by omega)
  have wy0 := wr y (by omega)
  have wx1 := wr px (by omega)
  have wy1 := wr py (by omega)
  have wx2 := wr qx (by omega)
  have wy2 := wr qy (by omega)
  have ex1 : IntKind.i64.wrap ((x : Int) * (wd : Int)) = px := by rw [mx]; exact wx1
  have ey1 : IntKind.i64.wrap ((y : Int) * (wd : Int)) = py := by rw [my]; exact wy1
  have ex2 : IntKind.i64.wrap ((px : Int) + (i : Int)) = qx := by rw [sx]; exact wx2
  have ey2 : IntKind.i64.wrap ((py : Int) + (i : Int)) = qy := by rw [sy]; exact wy2
  clear wr
  have zx : (0 : Int) ≤ (qx : Int) := by omega
  have zy : (0 : Int) ≤ (qy : Int) := by omega
  have hxi : (qx : Int) < (ln : Int) := by omega
  have hyi : (qy : Int) < (ln : Int) := by omega
  have hb6 : b6 < w.heap.size := World.block_lt_of_cell? _ _ h6
  have hb10 : b10 < w.heap.size := World.block_lt_of_cell? _ _ h10
  have hb17 : b17 < w.heap.size := World.block_lt_of_cell? _ _ h17
  have hab : ab < w.heap.size := World.block_lt_of_cell? _ _ hx
  go_enter Yba.func29, Yba.ntmps29
  go_wp2_with fail
  go_region_held3 (fun w' => w'.cell? ⟨b6, 0, none⟩ = some (.slice (some ⟨ab, 0, none⟩) ln cap) ∧ w'.cell? ⟨b10, 0, none⟩ = some (.int .i64 wd) ∧ w'.cell? ⟨b17, 0, none⟩ = some (.int .i64 i) ∧ w'.cell? ⟨ab, qx, none⟩ = some (.int .i32 ax) ∧ w'.cell? ⟨ab, qy, none⟩ = some (.int .i32 ay)) (go_keep) (first | (go_at_call 31; refine (cmpI32 _ _ _).mono ?_; rintro e w' ⟨rfl, rfl⟩) | (go_at_call 30; refine (or_at _ (cmpI ax ay) (cmpI x y) r _ (by simp) (by simp) HR1.out HR2.out).mono ?_; rintro e w' ⟨rfl, rfl⟩))
  go_wp2_with fail
  go_ret
  exact ⟨rfl, ((Gr.refl _).alloc _).drew⟩
end Go.Proofs.Ybulkdcs
