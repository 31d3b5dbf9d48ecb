import Derived.Test.YbulkdbqDoorMsg
import Derived.Shelf.SlSorted.Search
import Derived.Ground.SlsoProg
import Derived.RegionTactic
import Derived.Shelf.SlSortCmp.QuietGrown
import Derived.Deep.QuietTactic
import Derived.BigQuiet
namespace Go.Proofs.YbulkdbqDoor
open Go.Shelf Go.RowKit Go.Lib Go.Sort
set_option linter.unusedVariables false
set_option linter.unusedSimpArgs false
shelf_lay SlLaysO.n16 Slso 16 at Ybad as Ybad.laysSearch

/-- A row of sizes in memory. -/
def Row (w : World) (g : Nat) (r : List (Int × Int)) : Prop :=
  g < w.heap.size ∧ ∀ i, i < r.length → w.cell? ⟨g, i * 2, none⟩ = some (.int .i64 (r.getD i (0, 0)).1) ∧ w.cell? ⟨g, i * 2 + 1, none⟩ = some (.int .i64 (r.getD i (0, 0)).2)

theorem Row.below {w w' : World} {g : Nat} {r : List (Int × Int)} (h : Row w g r) (hb : RowKit.Below w.heap.size w w') : Row w' g r :=
  ⟨Nat.lt_of_lt_of_le h.1 hb.size, fun i hi => ⟨(hb.cell (p := ⟨g, i * 2, none⟩) h.1).trans (h.2 i hi).1, (hb.cell (p := ⟨g, i * 2 + 1, none⟩) h.1).trans (h.2 i hi).2⟩⟩

set_option maxHeartbeats 1000000 in
theorem closure18 (ba bs g cap n : Nat) (i : Nat) (c y : Int) (W : World) (hi : i < n) (hn : n ≤ 1024)
    (ha : W.cell? ⟨ba, 0, none⟩ = some (.slice (some ⟨g, 0, none⟩) n cap)) (hx : W.cell? ⟨bs, 0, none⟩ = some (.int .i64 c)) (hc : W.cell? ⟨g, i * 2, none⟩ = some (.int .i64 y)) :
    Calls Ybad.prog 18 (#[.int .i64 i] ++ #[.pointer (some ⟨ba, 0, none⟩), .pointer (some ⟨bs, 0, none⟩)]) W fun e w' => e = .returned (.bool (decide (y < c))) ∧ ∃ q, w' = W.drewN q := by
  have hiz : (i : Int) < (n : Int) := by omega
  go_enter Ybad.func18, Ybad.ntmps18
  go_wp2
  go_quiet (fail)
  go_wp2
  go_ret
  exact ⟨rfl, _, rfl⟩

set_option maxHeartbeats 2000000 in
theorem search_any (g cap : Nat) (r : List (Int × Int)) (c m : Int) (w : World) (hn : r.length ≤ 1024) (hR : Row w g r) (hp : r.Pairwise (fun a b => b.1 ≤ a.1 ∧ a.2 < b.2)) :
    ∀ W0, W0 = (w.alloc (.cells #[.slice (some ⟨g, 0, none⟩) r.length cap] 45)).alloc (.cells #[.int .i64 c, .int .i64 m] 49) →
    Calls Ybad.prog 17 #[.int .i64 r.length, .func (.func 18) #[] #[.pointer (some ⟨w.heap.size, 0, none⟩), .pointer (some ⟨w.heap.size + 1, 0, none⟩)]] W0 fun e w' => e = .returned (.int .i64 (Plain.nOf r (c, m))) ∧ RowKit.Below W0.heap.size W0 w' := by
  intro W0 hW0
  have hsize : W0.heap.size = w.heap.size + 1 + 1 := by rw [hW0]; simp
  have hB0 : RowKit.Below w.heap.size w W0 := by rw [hW0]; exact ((RowKit.Below.refl _ w).alloc (Nat.le_refl _) _).alloc (by simp) _
  have ca : W0.cell? ⟨w.heap.size, 0, none⟩ = some (.slice (some ⟨g, 0, none⟩) r.length cap) := by rw [hW0]; simp
  have cx : W0.cell? ⟨w.heap.size + 1, 0, none⟩ = some (.int .i64 c) := by rw [hW0]; simp
  have hR0 := hR.below hB0
  have eg : ∀ args w, (callFunc 18 args).run Ybad.prog w = .ok (.enter 18 args) w := enters_of Ybad.func18 (by kernel_rfl) rfl
  have hg0 := hR0.1
  have hS := Any.sort_Search Ybad.laysSearch 18 #[.pointer (some ⟨w.heap.size, 0, none⟩), .pointer (some ⟨w.heap.size + 1, 0, none⟩)] r.length (fun i => decide ((r.getD i (0, 0)).1 < c)) W0 eg (by omega)
    (fun k os i hi => (closure18 w.heap.size (w.heap.size + 1) g cap r.length i c _ _ hi hn (cell_grown (by simp [hsize]; omega) ca k os) (cell_grown (by simp [hsize]) cx k os) (cell_grown hg0 (hR0.2 i hi).1 k os)).mono
      fun _ _ ⟨he, q, hq⟩ => ⟨he, q, #[], by rw [hq, grow_empty]⟩) (Plain.rising (c, m) hp)
  refine hS.mono fun e w' ⟨he, q, os, hq⟩ => ⟨he, ?_⟩
  rw [hq]
  exact below_grow _ _ _

/-- Over the nil room: nothing is asked of memory. -/
theorem search_nil (W0 : World) (cb : Array Value) :
    Calls Ybad.prog 17 #[.int .i64 0, .func (.func 18) #[] cb] W0 fun e w' => e = .returned (.int .i64 0) ∧ RowKit.Below W0.heap.size W0 w' := by
  have eg : ∀ args w, (callFunc 18 args).run Ybad.prog w = .ok (.enter 18 args) w := enters_of Ybad.func18 (by kernel_rfl) rfl
  have hS := Any.sort_Search Ybad.laysSearch 18 cb 0 (fun i => false) W0 eg (by omega) (fun k os i hi => by omega) (fun a b hab hb h => by omega)
  refine hS.mono fun e w' ⟨he, q, os, hq⟩ => ⟨he, ?_⟩
  rw [hq]
  exact below_grow _ _ _

set_option maxHeartbeats 2000000 in
set_option maxRecDepth 100000 in
theorem holds_nil (c m : Int) (w : World) :
    Calls Ybad.prog 11 #[.slice none 0 0, .agg #[.int .i64 c, .int .i64 m]] w fun e w' => e = .returned (.bool false) ∧ RowKit.Below w.heap.size w w' := by
  have hS := fun W0 => search_nil W0 #[.pointer (some ⟨w.heap.size, 0, none⟩), .pointer (some ⟨w.heap.size + 1, 0, none⟩)]
  go_enter Ybad.func11, Ybad.ntmps11
  go_wp2_with (go_at_call 17; refine (hS _).mono ?_; rintro e w' ⟨rfl, hB⟩)
  go_quiet (fail)
  go_wp2
  go_ret
  exact ⟨rfl, below_drewN ((((RowKit.Below.refl _ w).alloc (Nat.le_refl _) _).alloc (by simp) _).trans (hB.mono (by simp; omega))) _⟩

set_option maxHeartbeats 2000000 in
set_option maxRecDepth 100000 in
theorem holds_any (g cap : Nat) (r : List (Int × Int)) (c m : Int) (w : World) (hn : r.length ≤ 1024) (hR : Row w g r) (hp : r.Pairwise (fun a b => b.1 ≤ a.1 ∧ a.2 < b.2)) :
    Calls Ybad.prog 11 #[.slice (some ⟨g, 0, none⟩) r.length cap, .agg #[.int .i64 c, .int .i64 m]] w fun e w' => e = .returned (.bool (Plain.holdsL r (c, m))) ∧ RowKit.Below w.heap.size w w' := by
  have hS := search_any g cap r c m w hn hR hp _ rfl
  have hle := Plain.nOf_le r (c, m) hp
  obtain ⟨W0, hW0⟩ : ∃ W0, W0 = (w.alloc (.cells #[.slice (some ⟨g, 0, none⟩) r.length cap] 45)).alloc (.cells #[.int .i64 c, .int .i64 m] 49) := ⟨_, rfl⟩
  have hsize : W0.heap.size = w.heap.size + 1 + 1 := by rw [hW0]; simp
  have hB0 : RowKit.Below w.heap.size w W0 := by rw [hW0]; exact ((RowKit.Below.refl _ w).alloc (Nat.le_refl _) _).alloc (by simp) _
  have ca : W0.cell? ⟨w.heap.size, 0, none⟩ = some (.slice (some ⟨g, 0, none⟩) r.length cap) := by rw [hW0]; simp
  have cx : W0.cell? ⟨w.heap.size + 1, 0, none⟩ = some (.int .i64 c) := by rw [hW0]; simp
  have cy : W0.cell? ⟨w.heap.size + 1, 1, none⟩ = some (.int .i64 m) := by rw [hW0]; simp
  have hR0 := hR.below hB0
  rw [← hW0] at hS
  have HW := hide hW0
  clear hW0 hR
  by_cases h0 : 0 < Plain.nOf r (c, m)
  · have hfin : Plain.holdsL r (c, m) = Plain.geS (r.getD (Plain.nOf r (c, m) - 1) (0, 0)) (c, m) := by simp [Plain.holdsL, h0]
    rw [hfin]
    clear hfin
    generalize Plain.nOf r (c, m) = n at *
    obtain ⟨k, rfl⟩ : ∃ k, n = k + 1 := ⟨n - 1, by omega⟩
    obtain ⟨q1, q2⟩ := hR0.2 k (by omega)
    have hg := hR0.1
    rw [show k + 1 - 1 = k from rfl]
    have hkl : k < r.length := by omega
    generalize r.getD k (0, 0) = y at *
    obtain ⟨y1, y2⟩ := y
    simp only at q1 q2
    generalize r.length = len at *
    clear hR0 hp
    go_enter Ybad.func11, Ybad.ntmps11
    go_wp2_with (go_at_call 17; rw [← HW.out]; refine hS.mono ?_; rintro e w' ⟨rfl, hB⟩)
    have hgw : g < w'.heap.size := Nat.lt_of_lt_of_le hg hB.size
    have hsw : w.heap.size + 1 < w'.heap.size := by have := hB.size; omega
    have ca' := cell_grown (show w.heap.size < w'.heap.size by omega) ((hB.cell (p := ⟨w.heap.size, 0, none⟩) (by rw [hsize]; simp; omega)).trans ca)
    have cx' := cell_grown (show w.heap.size + 1 < w'.heap.size by omega) ((hB.cell (p := ⟨w.heap.size + 1, 0, none⟩) (by rw [hsize]; simp)).trans cx)
    have cy' := cell_grown (show w.heap.size + 1 < w'.heap.size by omega) ((hB.cell (p := ⟨w.heap.size + 1, 1, none⟩) (by rw [hsize]; simp)).trans cy)
    have q1' := cell_grown hgw ((hB.cell (p := ⟨g, k * 2, none⟩) hg).trans q1)
    have q2' := cell_grown hgw ((hB.cell (p := ⟨g, k * 2 + 1, none⟩) hg).trans q2)
    have hBw : RowKit.Below w.heap.size w w' := hB0.trans (hB.mono (by omega))
    have HB := hide hBw
    have hd : decide ((0 : Int) < (k : Int) + 1) = true := by simp
    have hkz : (k : Int) < (len : Int) := by omega
    clear hBw hB hB0 ca cx cy q1 q2 hS HW hsize
    refine wp_region_quiet_grown (by kernel_rfl) (by kernel_rfl) ?_
    repeat (go_big_quiet_step ((go_at_call 19; refine Calls.grown_of (atLeast_any y1 y2 c m _))))
    refine wpQuiet_nil ?_
    intro _ hw'
    obtain ⟨⟨nq, osq⟩, hw''⟩ := hw'
    subst hw''
    go_wp2
    go_ret
    exact ⟨rfl, HB.out.trans ((below_grow _ _ _).mono HB.out.size)⟩
  · have hfin : Plain.holdsL r (c, m) = false := by simp [Plain.holdsL, h0]
    rw [hfin]
    clear hfin
    generalize Plain.nOf r (c, m) = n at *
    obtain rfl : n = 0 := by omega
    generalize r.length = len at *
    clear hR0 hp h0
    go_enter Ybad.func11, Ybad.ntmps11
    go_wp2_with (go_at_call 17; rw [← HW.out]; refine hS.mono ?_; rintro e w' ⟨rfl, hB⟩)
    have hBw : RowKit.Below w.heap.size w w' := hB0.trans (hB.mono (by omega))
    have HB := hide hBw
    clear hBw hB hB0 ca cx cy hS HW hsize
    go_quiet (fail)
    go_wp2
    go_ret
    exact ⟨rfl, below_drewN HB.out _⟩
end Go.Proofs.YbulkdbqDoor
