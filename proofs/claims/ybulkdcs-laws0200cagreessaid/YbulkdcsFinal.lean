import Derived.Test.YbulkdcsSections
namespace Go.Proofs.Ybulkdcs
open Go.Shelf Go.RowKit Go.Lib Go.Sort
set_option linter.unusedVariables false
set_option linter.unusedSimpArgs false

theorem finRange_getD (l : List Nat) (N : Nat) (h : N = l.length) : (List.finRange N).map (fun j => l.getD j.val 0) = l := by
  subst h
  refine List.ext_getElem (by simp) fun i h1 h2 => ?_
  simp [h2]

/-- What a tree yields: the sections of its kind that the segment holds. -/
theorem pick_perm {p : Seg} {s : Nat → Sec} {M k : Nat} {D : TreeD} (hk : D.k = (k : Int)) (hok : TreeOK s (ixf s M k) D) (hm : D.m + 1 = (ixs s M k).length) : (pickI p s M D).Perm (((ixs s M k).filter fun i => heldB p (s i)).map fun i : Nat => (i : Int)) := by
  have hkn : D.k.toNat = k := by rw [hk]; simp
  have hkind : ∀ i ∈ ixs s M k, (s i).kind = D.k := fun i hi => by rw [kindN_eq, (ixs_mem hi).2.2, hk]
  unfold pickI
  rw [hkn]
  by_cases ht : takesB p.t D.k = true
  · rw [if_pos ht]
    have e1 : ∀ j : Fin (D.m + 1), reachN D.wd (crdA D.S s (ixf s M k) D.k j.val) (zr p D) = heldB p (s (ixf s M k j.val)) := fun j => by
      have hj : j.val < (ixs s M k).length := by rw [← hm]; exact j.isLt
      have hmem : ixf s M k j.val ∈ ixs s M k := by
        unfold ixf; rw [List.getD_eq_getElem?_getD, List.getElem?_eq_getElem hj]; exact List.getElem_mem _
      have hx : ∀ i, i < D.wd → (fun i => (placeL (s (ixf s M k j.val)) D.k).getD i 0) i ∈ D.S i := fun i hi => by
        refine (hok.S_ i hi).mem_iff.2 ?_
        unfold posL
        exact List.mem_map.2 ⟨j.val, List.mem_range.2 j.isLt, rfl⟩
      have h2 := reach_held D.wd D.S (fun i => (placeL (s (ixf s M k j.val)) D.k).getD i 0) (fun i => (roomL p D.k).getD i 0) hx
      unfold heldB
      rw [hkind _ hmem, ht, Bool.true_and, ← hok.wd_]
      exact h2
    have h1 : (D.ord.filter fun j => reachN D.wd (crdA D.S s (ixf s M k) D.k j.val) (zr p D)) = D.ord.filter fun j => heldB p (s (ixf s M k j.val)) := List.filter_congr fun j _ => e1 j
    rw [h1]
    have h3 := (hok.perm.filter fun j => heldB p (s (ixf s M k j.val))).map fun j => (ixf s M k j.val : Int)
    refine h3.trans (List.Perm.of_eq ?_)
    have h4 := finRange_getD (ixs s M k) (D.m + 1) hm
    have h5 : (ixs s M k).filter (fun i => heldB p (s i)) = (((List.finRange (D.m + 1)).filter fun j => heldB p (s (ixf s M k j.val))).map fun j => ixf s M k j.val) := by
      conv => lhs; rw [← h4]
      rw [List.filter_map]
      rfl
    rw [h5, List.map_map]
    rfl
  · rw [if_neg ht]
    rw [List.filter_eq_nil_iff.2, List.map_nil]
    intro i hi
    unfold heldB
    rw [hkind i hi]
    simp [ht]

theorem flat_congr_perm {α β : Type} (f g : α → List β) : ∀ l : List α, (∀ a ∈ l, (f a).Perm (g a)) → (l.flatMap f).Perm (l.flatMap g)
  | [], _ => by simp
  | a :: l, h => by
    rw [List.flatMap_cons, List.flatMap_cons]
    exact (h a (by simp)).append (flat_congr_perm f g l fun b hb => h b (List.mem_cons_of_mem _ hb))
theorem flat_filter {α β : Type} (f : α → List β) (q : α → Bool) : ∀ l : List α, (∀ a ∈ l, q a = false → f a = []) → (l.filter q).flatMap f = l.flatMap f
  | [], _ => by simp
  | a :: l, h => by
    have ih := flat_filter f q l fun b hb => h b (List.mem_cons_of_mem _ hb)
    by_cases hq : q a = true
    · rw [List.filter_cons, if_pos hq, List.flatMap_cons, List.flatMap_cons, ih]
    · rw [List.filter_cons, if_neg hq, List.flatMap_cons, ih, h a (by simp) (by simpa using hq), List.nil_append]

/-- The sections that the segment holds, by index. -/
def heldL (p : Seg) (s : Nat → Sec) (M : Nat) : List Nat := (List.range' 1 (M - 1)).filter fun i => heldB p (s i)

theorem all_perm {p : Seg} {s : Nat → Sec} {M base : Nat} {tv : Value} {Ds : List TreeD} {w : World} (h : Trees base s M 16 tv Ds w) : (Ds.flatMap (pickI p s M)).Perm ((heldL p s M).map fun i : Nat => (i : Int)) := by
  have hkN : ∀ D ∈ Ds, D.k = (D.k.toNat : Int) := fun D hD => by
    have h1 : D.k ∈ Ds.map fun D => D.k := List.mem_map.2 ⟨D, hD, rfl⟩
    rw [h.ks] at h1
    obtain ⟨k, _, h2⟩ := List.mem_map.1 h1
    rw [← h2]; simp
  have h1 : (Ds.flatMap (pickI p s M)).Perm (Ds.flatMap fun D => ((ixs s M D.k.toNat).filter fun i => heldB p (s i)).map fun i : Nat => (i : Int)) :=
    flat_congr_perm _ _ _ fun D hD => by
      obtain ⟨h2, _, h3, _⟩ := h.each D hD
      exact pick_perm (hkN D hD) h2 h3
  refine h1.trans ?_
  have h2 : (Ds.flatMap fun D => ((ixs s M D.k.toNat).filter fun i => heldB p (s i)).map fun i : Nat => (i : Int)) = (Ds.map fun D => D.k).flatMap fun k => ((ixs s M k.toNat).filter fun i => heldB p (s i)).map fun i : Nat => (i : Int) := by
    rw [List.flatMap_map]
  rw [h2, h.ks, List.flatMap_map]
  have h3 : ((kinds s M 16).flatMap fun k : Nat => ((ixs s M ((k : Int)).toNat).filter fun i => heldB p (s i)).map fun i : Nat => (i : Int)) = (List.range 16).flatMap fun k => ((ixs s M k).filter fun i => heldB p (s i)).map fun i : Nat => (i : Int) := by
    unfold kinds
    simp only [Int.toNat_natCast]
    refine flat_filter _ _ _ fun k _ hk => ?_
    have : ixs s M k = [] := by simpa using hk
    rw [this]; rfl
  rw [h3]
  have h4 := ((sift_all (List.range' 1 (M - 1)) (fun j => kindN (s j)) 16 (fun x _ => kindN_lt _)).filter fun i => heldB p (s i)).map fun i : Nat => (i : Int)
  rw [List.filter_flatMap, List.map_flatMap] at h4
  exact h4

/-- The law, plain. -/
theorem sorted_held {p : Seg} {s : Nat → Sec} {M base : Nat} {tv : Value} {Ds : List TreeD} {w : World} (h : Trees base s M 16 tv Ds w) : ((Ds.flatMap (pickI p s M)).mergeSort fun x y => decide (x ≤ y)) = (heldL p s M).map fun i : Nat => (i : Int) := by
  refine List.Perm.eq_of_pairwise (le := fun a b => a ≤ b) (fun a b _ _ h1 h2 => by omega) ?_ ?_ ((List.mergeSort_perm _ _).trans (all_perm h))
  · have := List.pairwise_mergeSort (le := fun x y : Int => decide (x ≤ y)) (fun a b c h1 h2 => by simp at *; omega) (fun a b => by simp; omega) (Ds.flatMap (pickI p s M))
    exact this.imp fun h => by simpa using h
  · rw [List.pairwise_map]
    unfold heldL
    exact (List.Pairwise.filter _ (List.pairwise_lt_range' (s := 1) (n := M - 1))).imp fun h => by omega

/-- Of the held, those below i. -/
theorem heldL_succ (p : Seg) (s : Nat → Sec) (i : Nat) (hi : 1 ≤ i) : heldL p s (i + 1) = heldL p s i ++ (if heldB p (s i) then [i] else []) := by
  unfold heldL
  rw [show i + 1 - 1 = (i - 1) + 1 by omega, List.range'_1_concat, List.filter_append, show 1 + (i - 1) = i by omega]
  congr 1
  by_cases h : heldB p (s i) = true
  · simp [h]
  · simp [h]
theorem heldL_prefix (p : Seg) (s : Nat → Sec) (i M : Nat) (hi : i ≤ M) : ∃ t, heldL p s M = heldL p s i ++ t := by
  unfold heldL
  have h : List.range' 1 (M - 1) = List.range' 1 (i - 1) ++ List.range' (1 + (i - 1)) ((M - 1) - (i - 1)) := by
    have := List.range'_append_1 (s := 1) (m := i - 1) (n := (M - 1) - (i - 1))
    rw [this]; congr 1; omega
  rw [h, List.filter_append]
  exact ⟨_, rfl⟩
theorem heldL_at (p : Seg) (s : Nat → Sec) (i M : Nat) (h1 : 1 ≤ i) (hi : i < M) (hh : heldB p (s i) = true) : (heldL p s M)[(heldL p s i).length]? = some i := by
  obtain ⟨t, ht⟩ := heldL_prefix p s (i + 1) M (by omega)
  rw [ht, heldL_succ p s i h1, if_pos hh, List.append_assoc, List.getElem?_append_right (Nat.le_refl _)]
  simp
theorem heldL_len (p : Seg) (s : Nat → Sec) (M : Nat) : (heldL p s M).length ≤ M - 1 := by
  unfold heldL
  refine Nat.le_trans (List.length_filter_le _ _) (by simp)
end Go.Proofs.Ybulkdcs
