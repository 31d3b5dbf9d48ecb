import Derived.Test.YbulkdcsCoord
import Derived.Test.YbulkdcsPlace3
import Derived.Test.YbulkdcsRoom
namespace Go.Proofs.Ybulkdcs
open Go.Shelf Go.RowKit Go.Lib Go.Sort
set_option linter.unusedVariables false
set_option linter.unusedSimpArgs false

theorem countP_strict (l : List Int) (p q : Int → Bool) (h : ∀ x, p x = true → q x = true) (y : Int) (hy : y ∈ l) (h1 : p y = false) (h2 : q y = true) : l.countP p < l.countP q := by
  induction l with
  | nil => simp at hy
  | cons a t ih =>
    have hm : t.countP p ≤ t.countP q := List.countP_mono_left fun x _ => h x
    simp only [List.countP_cons]
    rcases List.mem_cons.1 hy with rfl | hy'
    · rw [h1, h2]; simp; omega
    · have := ih hy'
      by_cases hp : p a = true
      · rw [hp, h a hp]; simp; omega
      · rw [Bool.not_eq_true] at hp
        rw [hp]; simp; split <;> omega

theorem cmp_lt_dec (q z : Int) : decide (cmpI q z < 0) = decide (q < z) := by
  unfold cmpI; by_cases h : q < z
  · simp [h]
  · simp [h]; split <;> omega
theorem end_lt_dec (q z : Int) : decide (endCmp q z < 0) = decide (q ≤ z) := by
  unfold endCmp; by_cases h : q ≤ z
  · simp [h]
  · simp [h]

/-- A coordinate is at least the room's just where the position is on the room's side. -/
theorem crd_le (S : Nat → List Int) (x z : Nat → Int) (i : Nat) (hx : x i ∈ S i) : crd S z i ≤ crd S x i ↔ (if i % 2 = 0 then z i ≤ x i else x i ≤ z i) := by
  unfold crd
  simp only [cmp_lt_dec, end_lt_dec]
  by_cases hp : i % 2 = 0
  · simp only [if_pos hp]
    by_cases h : z i ≤ x i
    · have : (S i).countP (fun q => decide (q < z i)) ≤ (S i).countP (fun q => decide (q < x i)) := List.countP_mono_left fun q _ hq => by simp at hq ⊢; omega
      exact ⟨fun _ => h, fun _ => by omega⟩
    · have := countP_strict (S i) (fun q => decide (q < x i)) (fun q => decide (q < z i)) (fun q hq => by simp at hq ⊢; omega) (x i) hx (by simp) (by simp; omega)
      exact ⟨fun h2 => by omega, fun h2 => absurd h2 h⟩
  · simp only [if_neg hp]
    by_cases h : x i ≤ z i
    · have : (S i).countP (fun q => decide (q ≤ x i)) ≤ (S i).countP (fun q => decide (q ≤ z i)) := List.countP_mono_left fun q _ hq => by simp at hq ⊢; omega
      exact ⟨fun _ => h, fun _ => by omega⟩
    · have := countP_strict (S i) (fun q => decide (q ≤ z i)) (fun q => decide (q ≤ x i)) (fun q hq => by simp at hq ⊢; omega) (x i) hx (by simp; omega) (by simp)
      exact ⟨fun h2 => by omega, fun h2 => absurd h2 h⟩

/-- Whether a place lies in a room. -/
def heldP (wd : Nat) (x z : Nat → Int) : Bool := (List.range wd).all fun i => if i % 2 = 0 then decide (z i ≤ x i) else decide (x i ≤ z i)
theorem reach_held (wd : Nat) (S : Nat → List Int) (x z : Nat → Int) (hx : ∀ i, i < wd → x i ∈ S i) : reachN wd (crd S x) (crd S z) = heldP wd x z := by
  unfold reachN heldP
  rw [Bool.eq_iff_iff]
  simp only [List.all_eq_true, List.mem_range, decide_eq_true_eq]
  constructor
  · intro h i hi
    have := (crd_le S x z i (hx i hi)).1 (h i hi)
    split <;> rename_i hp <;> simp only [hp, if_true, if_false] at this <;> simpa using this
  · intro h i hi
    refine (crd_le S x z i (hx i hi)).2 ?_
    have := h i hi
    split <;> rename_i hp <;> simp only [hp, if_true, if_false] at this <;> simpa using this

/-- How many coordinates a kind has. -/
def wdOf (k : Int) : Nat := (if kN k then 2 else 0) + (if kA k then 2 else 0)
theorem wdOf_cases (k : Int) : wdOf k = 0 ∨ wdOf k = 2 ∨ wdOf k = 4 := by unfold wdOf; split <;> split <;> omega
theorem placeL_len (s : Sec) (k : Int) : (placeL s k).length = wdOf k := by
  unfold placeL wdOf; split <;> split <;> simp
theorem roomL_len (p : Seg) (k : Int) : (roomL p k).length = wdOf k := by
  unfold roomL wdOf; split <;> split <;> simp

/-- Whether the segment holds the section. -/
def heldB (p : Seg) (s : Sec) : Bool := takesB p.t s.kind && heldP (wdOf s.kind) (fun i => (placeL s s.kind).getD i 0) (fun i => (roomL p s.kind).getD i 0)

/-- A list, sifted class by class. -/
theorem sift_perm {α : Type} (L : List α) (f : α → Nat) (n : Nat) : ((List.range n).flatMap fun k => L.filter fun x => decide (f x = k)).Perm (L.filter fun x => decide (f x < n)) := by
  induction n with
  | zero => simp
  | succ n ih =>
    rw [List.range_succ, List.flatMap_append]
    have h := List.filter_append_perm (fun x => decide (f x < n)) (L.filter fun x => decide (f x < n + 1))
    refine List.Perm.trans ?_ h
    refine List.Perm.append (ih.trans ?_) ?_
    · rw [List.filter_filter]
      refine List.Perm.of_eq (List.filter_congr fun x _ => ?_)
      by_cases hx : f x < n
      · simp [hx]; omega
      · simp [hx]
    · rw [List.filter_filter]
      simp only [List.flatMap_cons, List.flatMap_nil, List.append_nil]
      refine List.Perm.of_eq (List.filter_congr fun x _ => ?_)
      by_cases hx : f x = n
      · simp [hx]
      · simp [hx]; omega
theorem sift_all {α : Type} (L : List α) (f : α → Nat) (n : Nat) (hf : ∀ x ∈ L, f x < n) : ((List.range n).flatMap fun k => L.filter fun x => decide (f x = k)).Perm L := by
  have := sift_perm L f n
  rwa [List.filter_eq_self.2 (fun x hx => by simpa using hf x hx)] at this
end Go.Proofs.Ybulkdcs
