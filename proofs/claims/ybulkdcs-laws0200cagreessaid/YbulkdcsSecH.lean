import Derived.Test.YbulkdcsIndex
import Derived.Test.YbulkdcsHeld
import Derived.Shelf.SortM.Plain
import Derived.Shelf.SortM.SortNone
import Derived.Ground.SlgmProg
namespace Go.Proofs.Ybulkdcs
open Go.Shelf Go.RowKit Go.Lib Go.Sort
set_option linter.unusedVariables false
set_option linter.unusedSimpArgs false

shelf_lay_g SlLaysM.n5 Slgm 5 at Yba 13 as Yba.laysSort13

/-- The tail of the row is sorted. -/
theorem sort13 (hb base nv cap capS : Nat) (xs : List Value) (Q : List Int) (w : World) (hown : w.ownsRow base 3 1 (.slice (some ⟨hb, 0, none⟩) (nv + Q.length) cap) (nv + Q.length) (xs ++ Q.map (Value.int .i64))) (hxs : xs.length = nv) (hQ : Q.length ≤ 2000) :
    Calls Yba.prog 13 #[.slice (some ⟨hb, nv, none⟩) Q.length capS] w fun e w' => e = .returned (.tuple #[]) ∧
      w'.ownsRow base 3 1 (.slice (some ⟨hb, 0, none⟩) (nv + Q.length) cap) (nv + Q.length) (xs ++ (Q.mergeSort fun x y => decide (x ≤ y)).map (Value.int .i64)) ∧ w.grownBy w' (some hb) := by
  obtain ⟨hl, h2⟩ := hown
  rcases h2 with ⟨h3, _⟩ | ⟨g, cap', cur, h3, hbg, hg, hn, hmax, hsz, htake⟩
  · cases h3
  cases h3
  have hcur : ∀ t, t < nv + Q.length → cur[t]? = (xs ++ Q.map (Value.int .i64))[t]? := fun t ht => by
    rw [← htake, List.getElem?_take_of_lt (by omega)]; simp
  have hH : Holds (Value.int .i64) w hb nv Q.toArray := by
    intro j hj
    have hj' : j < Q.length := by simpa using hj
    refine ⟨?_, by simp [World.frozen?, hg]⟩
    simp only [World.cell?, hg]
    show cur[nv + j]? = _
    rw [hcur _ (by omega), List.getElem?_append_right (by omega), hxs, show nv + j - nv = j by omega]
    simp [hj']
  refine (AnyM.slices_Sort_int Yba.laysSort13 hb nv capS Q w hH (Array.getElem?_eq_some_iff.1 hg).1 (by omega)).mono fun e w' ⟨he, n, os, hw⟩ => ⟨he, ?_, ?_⟩
  · obtain ⟨d, hd⟩ : ∃ d : Array Int, d = (Q.mergeSort fun x y => decide (x ≤ y)).toArray := ⟨_, rfl⟩
    have hds : d.size = Q.length := by rw [hd]; simp
    rw [← hd] at hw
    have hg' : w'.heap[hb]? = some (.cells (putCells (Value.int .i64) nv d cur) 3 (0, 0)) := by
      rw [hw]
      show ((w.heap.modify hb _) ++ os)[hb]? = _
      rw [Array.getElem?_append_left (by simp; exact (Array.getElem?_eq_some_iff.1 hg).1), Array.getElem?_modify, if_pos rfl, hg]
      rfl
    refine ⟨by simp [hxs], .inr ⟨hb, cap, _, rfl, hbg, hg', hn, hmax, by simpa [putCells] using hsz, ?_⟩⟩
    refine List.ext_getElem? fun t => ?_
    by_cases ht : t < nv + Q.length
    · rw [List.getElem?_take_of_lt (by omega), Array.getElem?_toList]
      simp only [putCells, Array.getElem?_mapIdx, hcur t ht]
      by_cases ht2 : t < nv
      · rw [List.getElem?_append_left (by omega), List.getElem?_append_left (by omega)]
        have hx : xs[t]? = some xs[t] := List.getElem?_eq_getElem (by omega)
        rw [hx, Option.map_some, if_neg (by omega)]
      · rw [List.getElem?_append_right (by omega), List.getElem?_append_right (by omega), hxs, List.getElem?_map, List.getElem?_map]
        have h1 : t - nv < Q.length := by omega
        have h2 : t - nv < (Q.mergeSort fun x y => decide (x ≤ y)).length := by simpa using h1
        rw [List.getElem?_eq_getElem h1, List.getElem?_eq_getElem h2, Option.map_some, Option.map_some, if_pos ⟨by omega, by omega⟩, Option.map_some]
        congr 2
        rw [hd]
        simp only [List.getElem!_toArray, List.getElem!_eq_getElem?_getD]
        rw [List.getElem?_eq_getElem h2]; rfl
    · rw [List.getElem?_eq_none (by simp; omega), List.getElem?_eq_none (by simp [hxs]; omega)]
  · have := (grx_sortWorld (enc := Value.int .i64) (w := w) (blk := hb) (off := nv) (n := n) (d := (Q.mergeSort fun x y => decide (x ≤ y)).toArray) (os := os)).gb
    rw [hw]; exact this

/-- The index of a row of rows of nine. -/
theorem flat9 {α : Type} (f : α → List Value) (hf : ∀ a, (f a).length = 9) : ∀ (l : List α) (i c : Nat) (a : α), l[i]? = some a → c < 9 → (l.flatMap f)[i * 9 + c]? = (f a)[c]?
  | [], i, c, a, h, hc => by simp at h
  | x :: l, 0, c, a, h, hc => by
    obtain rfl : x = a := by simpa using h
    rw [List.flatMap_cons, List.getElem?_append_left (by rw [hf]; omega)]
    simp
  | x :: l, i + 1, c, a, h, hc => by
    rw [List.flatMap_cons, List.getElem?_append_right (by rw [hf]; omega), hf, show (i + 1) * 9 + c - 9 = i * 9 + c by omega]
    exact flat9 f hf l i c a (by simpa using h) hc

/-- What a tree yields. -/
def zr (p : Seg) (D : TreeD) : Nat → Int := crd D.S fun i => (roomL p D.k).getD i 0
def pickI (p : Seg) (s : Nat → Sec) (M : Nat) (D : TreeD) : List Int :=
  if takesB p.t D.k then (D.ord.filter fun j => reachN D.wd (crdA D.S s (ixf s M D.k.toNat) D.k j.val) (zr p D)).map fun j => (ixf s M D.k.toNat j.val : Int) else []
theorem pickI_len {p : Seg} {s : Nat → Sec} {M : Nat} {D : TreeD} {idx : Nat → Nat} (h : TreeOK s idx D) : (pickI p s M D).length ≤ D.m + 1 := by
  unfold pickI
  split
  · rw [List.length_map]
    refine Nat.le_trans (List.length_filter_le _ _) ?_
    rw [h.perm.length_eq]; simp
  · simp
theorem pickI_picks {p : Seg} {s : Nat → Sec} {M : Nat} {D : TreeD} (ht : takesB p.t D.k = true) : picks D.wd (crdA D.S s (ixf s M D.k.toNat) D.k) (fun j => (ixf s M D.k.toNat j : Int)) (zr p D) D.ord = (pickI p s M D).map (Value.int .i64) := by
  unfold pickI picks
  rw [if_pos ht, List.map_map]
  rfl

/-- How many sections lie in the trees. -/
def cnt (Ds : List TreeD) : Nat := (Ds.map fun D => D.m + 1).sum
theorem cnt_append (a b : List TreeD) : cnt (a ++ b) = cnt a + cnt b := by simp [cnt]
theorem sum_filter_le {α : Type} (f : α → Nat) (q : α → Bool) : ∀ l : List α, ((l.filter q).map f).sum ≤ (l.map f).sum
  | [] => by simp
  | x :: l => by
    have := sum_filter_le f q l
    by_cases h : q x = true
    · simp [h]; omega
    · rw [Bool.not_eq_true] at h; simp [h]; omega
theorem Trees.cnt_le {base : Nat} {s : Nat → Sec} {M : Nat} {tv : Value} {Ds : List TreeD} {w : World} (h : Trees base s M 16 tv Ds w) : cnt Ds ≤ M - 1 := by
  have h1 : (Ds.map fun D => D.m + 1) = (Ds.map fun D => D.k).map fun k => (ixs s M k.toNat).length := by
    rw [List.map_map]
    exact List.map_congr_left fun D hD => (h.each D hD).2.2.1
  unfold cnt
  rw [h1, h.ks, List.map_map]
  refine Nat.le_trans (sum_filter_le _ _ _) ?_
  have h2 : ((List.range 16).map ((fun k => (ixs s M k.toNat).length) ∘ fun k : Nat => (k : Int))).sum = ((List.range 16).flatMap fun k => ixs s M k).length := by
    rw [List.length_flatMap]; rfl
  rw [h2]
  have h3 := (sift_all (List.range' 1 (M - 1)) (fun j => kindN (s j)) 16 (fun x _ => kindN_lt _)).length_eq
  rw [show ((List.range 16).flatMap fun k => ixs s M k).length = _ from h3]
  simp
theorem cnt_take (Ds : List TreeD) (i : Nat) : cnt (Ds.take i) ≤ cnt Ds := by
  have := cnt_append (Ds.take i) (Ds.drop i)
  rw [List.take_append_drop] at this
  omega
theorem flat_len {p : Seg} {s : Nat → Sec} {M : Nat} {Ds : List TreeD} (h : ∀ D ∈ Ds, ∃ idx, TreeOK s idx D) : (Ds.flatMap (pickI p s M)).length ≤ cnt Ds := by
  induction Ds with
  | nil => simp [cnt]
  | cons D Ds ih =>
    obtain ⟨idx, hD⟩ := h D (by simp)
    have h1 := pickI_len (p := p) (M := M) hD
    have h2 := ih fun E hE => h E (List.mem_cons_of_mem _ hE)
    have e : cnt (D :: Ds) = (D.m + 1) + cnt Ds := by simp [cnt]
    rw [List.flatMap_cons, List.length_append, e]
    omega
end Go.Proofs.Ybulkdcs
