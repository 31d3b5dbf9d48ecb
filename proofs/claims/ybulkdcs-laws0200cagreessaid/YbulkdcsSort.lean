import Derived.Test.YbulkdcsOr
import Derived.Shelf.SlSortCmp.WholeK
import Derived.Shelf.SlSortCmp.Whole1
import Derived.Ground.SlsfProg
namespace Go.Proofs.Ybulkdcs
open Go.Shelf Go.RowKit Go.Lib Go.Sort
set_option linter.unusedVariables false
set_option linter.unusedSimpArgs false
shelf_lay_g SlLaysF0.n6 Slsf 6 at Yba 16 as Yba.laysSort16
shelf_lay_g SlLaysF.n6 Slsf 6 at Yba 28 as Yba.laysSort28

theorem grx_sortWorldK {α : Type} [Inhabited α] {enc : α → List Value} {k : Nat} {w : World} {blk off n : Nat} {d : Array α} {os : Array Obj} : GrX blk w (sortWorldK enc k w blk off n d os) := by
  refine ⟨⟨rfl, rfl, rfl, ?_, fun i hi hne => ?_⟩, ?_⟩
  · simp [sortWorldK, grow, putRowK, putRow, mapBlock, Sort.ahead]
  · show ((w.heap.modify blk _) ++ os)[i]? = _
    rw [Array.getElem?_append_left (by simp; omega), Array.getElem?_modify, if_neg (by intro e; exact hne (by rw [e]))]
  · simp [sortWorldK, grow, putRowK, putRow, mapBlock, Sort.ahead]
theorem grx_sortWorld {α : Type} [Inhabited α] {enc : α → Value} {w : World} {blk off n : Nat} {d : Array α} {os : Array Obj} : GrX blk w (sortWorld enc w blk off n d os) := by
  refine ⟨⟨rfl, rfl, rfl, ?_, fun i hi hne => ?_⟩, ?_⟩
  · simp [sortWorld, grow, putRow, mapBlock, Sort.ahead]
  · show ((w.heap.modify blk _) ++ os)[i]? = _
    rw [Array.getElem?_append_left (by simp; omega), Array.getElem?_modify, if_neg (by intro e; exact hne (by rw [e]))]
  · simp [sortWorld, grow, putRow, mapBlock, Sort.ahead]

theorem ltP (x y : Int) : ltOf cmpI x y = decide (x < y) := by
  unfold ltOf cmpI
  apply decide_eq_decide.2
  split
  · constructor <;> intro <;> omega
  · split <;> constructor <;> intro <;> omega
theorem swoP : SWO (ltOf cmpI) where
  irrefl x := by rw [ltP]; simp
  trans x y z h1 h2 := by rw [ltP] at *; simp only [decide_eq_true_eq] at *; omega
  ntrans x y z h1 h2 := by rw [ltP] at *; simp only [decide_eq_false_iff_not] at *; omega

theorem perm_of_in {α : Type} [Inhabited α] {l : List α} {d' : Array α} (hp : PermIn 0 l.length l.toArray d') : d'.toList.Perm l ∧ d'.size = l.length := by
  obtain ⟨h1, _, h3⟩ := hp
  have hsz : d'.size = l.length := by simpa using h1
  have e1 : (d'.extract 0 l.length) = d' := by rw [← hsz]; simp
  have e2 : (l.toArray.extract 0 l.length) = l.toArray := by
    simp only [List.extract_toArray, List.extract_eq_take_drop, List.drop_zero, Nat.sub_zero]
    rw [List.take_of_length_le (by simp)]
  rw [e1, e2] at h3
  exact ⟨by simpa using h3, hsz⟩

/-- The positions are sorted. -/
theorem sort16 (b cap : Nat) (S : List Int) (C : Array Value) (w : World) (hR : PosRow w b S) (hC : w.heap[b]? = some (.cells C 59 (0, 0))) (hl : S.length ≤ 512) :
    Calls Yba.prog 16 #[.slice (some ⟨b, 0, none⟩) S.length cap, .func (.func 15) #[] #[]] w fun e w' => e = .returned (.tuple #[]) ∧
      ∃ S' : List Int, S'.Perm S ∧ (∀ a c, a ≤ c → c < S'.length → S'.getD a 0 ≤ S'.getD c 0) ∧ PosRow w' b S' ∧ GrX b w w' := by
  have hb : b < w.heap.size := (Array.getElem?_eq_some_iff.1 hC).1
  have hH : HoldsK encP 2 w b 0 S.toArray := by
    intro t ht
    rw [size_flatK] at ht
    rw [get_flatK _ _ _ _ ht]
    have hsz : S.toArray.size = S.length := by simp
    rw [hsz] at ht
    have hj : t / 2 < S.length := by omega
    have hd : S.toArray[t / 2]! = S.getD (t / 2) 0 := by simp [List.getElem?_eq_getElem hj, hj]
    rw [hd]
    obtain ⟨q1, q2⟩ := hR (t / 2) hj
    refine ⟨?_, by simp [World.frozen?, hC]⟩
    rw [Nat.zero_add]
    rcases Nat.mod_two_eq_zero_or_one t with e | e
    · rw [show t / 2 * 2 = t by omega] at q1
      rw [q1, e]; rfl
    · rw [show t / 2 * 2 + 1 = t by omega] at q2
      rw [q2, e]; rfl
  have hsz : S.toArray.size = S.length := by simp
  have eg : ∀ args w, (callFunc 15 args).run Yba.prog w = .ok (.enter 15 args) w := enters_of Yba.func15 (by kernel_rfl) rfl
  have hcon := AnyQ.slices_SortFunc Yba.laysSort16 2 Yba.isAgg59 Yba.sizeOf59 encP (fun _ => rfl) (fun x v hv => by simp [encP] at hv; rcases hv with rfl | rfl <;> rfl) cmpI swoP 15 #[] b 0 cap S.toArray w eg (fun _ _ _ _ x y => compare_any x y _) hH hb (by omega)
  rw [hsz] at hcon
  refine hcon.mono fun e w' ⟨he, d', n, os, hp, hs, hw⟩ => ⟨he, d'.toList, (perm_of_in hp).1, ?_, ?_, by rw [hw]; exact grx_sortWorldK⟩
  · intro a c hac hc
    have hsz' := (perm_of_in hp).2
    have hc' : c < d'.size := by simpa using hc
    by_cases e : a = c
    · subst e; exact Int.le_refl _
    · have := hs a c (Nat.zero_le _) (by omega) (by omega)
      rw [getElem!_pos d' a (by omega), getElem!_pos d' c hc', ltP] at this
      have h2 : ¬ (d'[c] < d'[a]) := of_decide_eq_false this
      simp [List.getElem?_eq_getElem, hc', show a < d'.size by omega]
      omega
  · have hd' : d'.size = S.toArray.size := hp.1
    have h2 := holdsK_sortWorldK_c encP 2 w b 0 S.toArray d' n os hH hb hd'
    rw [hw]
    intro i hi
    have hid : i < d'.size := by simpa using hi
    have e : d'.toList.getD i 0 = d'[i]! := by simp [List.getElem?_eq_getElem, hid, getElem!_pos d' i hid]
    rw [e]
    have c0 := (h2.cell hid (show 0 < 2 by omega)).1
    have c1 := (h2.cell hid (show 1 < 2 by omega)).1
    simp only [Nat.zero_add, Nat.add_zero] at c0 c1
    exact ⟨by rw [c0]; rfl, by rw [c1]; rfl⟩

theorem ltC (a : Nat → Int) {m : Nat} (x y : Fin (m + 1)) : ltOf (fun x y : Fin (m + 1) => cfO a x.val y.val) x y = decide (a x.val < a y.val ∨ (a x.val = a y.val ∧ x.val < y.val)) := by
  show decide (cfO a x.val y.val < 0) = _
  apply decide_eq_decide.2
  unfold cfO cmpI
  generalize a x.val = p
  generalize a y.val = q
  generalize x.val = i
  generalize y.val = j
  split <;> (repeat' split) <;> constructor <;> intro <;> omega
theorem swoC (a : Nat → Int) {m : Nat} : SWO (ltOf (fun x y : Fin (m + 1) => cfO a x.val y.val)) where
  irrefl x := by rw [ltC]; simp
  trans x y z h1 h2 := by rw [ltC] at *; simp only [decide_eq_true_eq] at *; omega
  ntrans x y z h1 h2 := by rw [ltC] at *; simp only [decide_eq_false_iff_not] at *; omega

/-- The order is turned, by a sort. -/
theorem sort28 (ob oo cap b6 b10 b17 ab cap6 wd i m : Nat) (a : Nat → Int) (l : List (Fin (m + 1))) (C : Array Value) (w : World) (hC : w.heap[ob]? = some (.cells C 21 (0, 0))) (hl : l.length ≤ 512) (hm : m < 512)
    (hR : ∀ t, t < l.length → C[oo + t]? = some (.int .i32 ((l.getD t 0).val : Int)))
    (h6 : w.cell? ⟨b6, 0, none⟩ = some (.slice (some ⟨ab, 0, none⟩) ((m + 1) * wd) cap6)) (h10 : w.cell? ⟨b10, 0, none⟩ = some (.int .i64 wd)) (h17 : w.cell? ⟨b17, 0, none⟩ = some (.int .i64 i))
    (ha : ∀ j, j < m + 1 → w.cell? ⟨ab, j * wd + i, none⟩ = some (.int .i32 (a j))) (hw : wd ≤ 4) (hi : i < wd) (n6 : b6 ≠ ob) (n10 : b10 ≠ ob) (n17 : b17 ≠ ob) (na : ab ≠ ob) :
    Calls Yba.prog 28 #[.slice (some ⟨ob, oo, none⟩) l.length cap, .func (.func 29) #[] #[.pointer (some ⟨b6, 0, none⟩), .pointer (some ⟨b10, 0, none⟩), .pointer (some ⟨b17, 0, none⟩)]] w fun e w' => e = .returned (.tuple #[]) ∧
      ∃ (l' : List (Fin (m + 1))) (C' : Array Value), l'.Perm l ∧ w'.heap[ob]? = some (.cells C' 21 (0, 0)) ∧ C'.size = C.size ∧ (∀ t, t < l.length → C'[oo + t]? = some (.int .i32 ((l'.getD t 0).val : Int))) ∧ (∀ j, ¬ (oo ≤ j ∧ j < oo + l.length) → C'[j]? = C[j]?) ∧ GrX ob w w' := by
  have hb : ob < w.heap.size := (Array.getElem?_eq_some_iff.1 hC).1
  let enc : Fin (m + 1) → Value := fun x => .int .i32 (x.val : Int)
  have hH : Holds enc w ob oo l.toArray := by
    intro j hj
    have hj' : j < l.length := by simpa using hj
    have e : l.toArray[j]! = l.getD j 0 := by simp [List.getElem?_eq_getElem hj', hj']
    rw [e]
    refine ⟨?_, by simp [World.frozen?, hC]⟩
    simp only [World.cell?, hC]
    exact hR j hj'
  have hsz : l.toArray.size = l.length := by simp
  have eg : ∀ args w, (callFunc 29 args).run Yba.prog w = .ok (.enter 29 args) w := enters_of Yba.func29 (by kernel_rfl) rfl
  have hcmp : CmpLays1 Yba.prog 29 #[.pointer (some ⟨b6, 0, none⟩), .pointer (some ⟨b10, 0, none⟩), .pointer (some ⟨b17, 0, none⟩)] enc (fun x y => cfO a x.val y.val) ob oo l.toArray.size w := by
    intro m' os dk _ x y
    have g : GrX ob w (sortWorld enc w ob oo m' dk os) := grx_sortWorld
    have hx := x.isLt
    have hy := y.isLt
    have bd : ∀ j, j < m + 1 → j * wd + i < (m + 1) * wd := fun j hj => by
      have := Nat.mul_le_mul_right wd (show j + 1 ≤ m + 1 by omega)
      rw [Nat.add_mul, Nat.one_mul] at this
      omega
    have bt : (m + 1) * wd ≤ 512 * 4 := Nat.mul_le_mul (by omega) hw
    exact closure29 b6 b10 b17 ab ((m + 1) * wd) cap6 wd i x.val y.val a _ (g.cell h6 n6) (g.cell h10 n10) (g.cell h17 n17) (g.cell (ha _ hx) na) (g.cell (ha _ hy) na) (bd _ hx) (bd _ hy) (by omega) (by omega) (by omega) hw (by omega)
  have hcon := Any.slices_SortFunc Yba.laysSort28 enc (fun _ => rfl) (fun x y => cfO a x.val y.val) (swoC a) 29 _ ob oo cap l.toArray w eg hcmp hH hb (by omega)
  rw [hsz] at hcon
  refine hcon.mono fun e w' ⟨he, d', n, os, hp, hs, hw⟩ => ⟨he, d'.toList, putCells enc oo d' C, (perm_of_in hp).1, ?_, by simp [putCells], ?_, ?_, by rw [hw]; exact grx_sortWorld⟩
  · rw [hw]
    show ((w.heap.modify ob _) ++ os)[ob]? = _
    rw [Array.getElem?_append_left (by simp; omega), Array.getElem?_modify, if_pos rfl, hC]
    rfl
  · intro t ht
    have hd := (perm_of_in hp).2
    have hin : C[oo + t]? = some (.int .i32 ((l.getD t 0).val : Int)) := hR t ht
    have htd : t < d'.size := by omega
    have e : d'.toList.getD t 0 = d'[t]! := by simp [List.getElem?_eq_getElem, htd, getElem!_pos d' t htd]
    simp only [putCells, Array.getElem?_mapIdx, hin, Option.map_some]
    rw [if_pos ⟨by omega, by omega⟩, show oo + t - oo = t by omega, e]
  · intro j hj
    have hd := (perm_of_in hp).2
    simp only [putCells, Array.getElem?_mapIdx]
    have hn : ¬ (oo ≤ j ∧ j < oo + d'.size) := by omega
    cases C[j]? with
    | none => rfl
    | some v => simp only [Option.map_some, if_neg hn]
end Go.Proofs.Ybulkdcs
