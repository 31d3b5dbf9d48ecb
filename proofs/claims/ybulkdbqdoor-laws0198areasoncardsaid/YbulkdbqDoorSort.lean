import Derived.Test.YbulkdbqDoorRoom
import Derived.Shelf.SlSortCmp.WholeK
import Derived.Shelf.SlSortCmp.NoneTotal
import Derived.Ground.SlsfProg
namespace Go.Proofs.YbulkdbqDoor
open Go.Shelf Go.RowKit Go.Lib Go.Sort
set_option linter.unusedVariables false
set_option linter.unusedSimpArgs false
shelf_lay_g SlLaysF0.n6 Slsf 6 at Ybad 8 as Ybad.laysSort

abbrev Sz := Int32 × Int32
def of32 (x : Sz) : Int × Int := (x.1.toInt, x.2.toInt)
def to32 (p : Int × Int) : Sz := (Int32.ofInt p.1, Int32.ofInt p.2)
def encSz (x : Sz) : List Value := [.int .i64 x.1.toInt, .int .i64 x.2.toInt]
def cfSz (x y : Sz) : Int := cmpI x.1.toInt x.2.toInt y.1.toInt y.2.toInt

theorem i32_bd (x : Int32) : -2147483648 ≤ x.toInt ∧ x.toInt ≤ 2147483647 := by
  have h1 := x.le_toInt
  have h2 := x.toInt_lt
  omega
theorem of32_to32 (p : Int × Int) (h1 : -2147483648 ≤ p.1) (h2 : p.1 ≤ 2147483647) (h3 : -2147483648 ≤ p.2) (h4 : p.2 ≤ 2147483647) : of32 (to32 p) = p := by
  obtain ⟨a, b⟩ := p
  simp only at h1 h2 h3 h4
  have e1 : (Int32.ofInt a).toInt = a := Int32.toInt_ofInt_of_le (by simpa using h1) (by omega)
  have e2 : (Int32.ofInt b).toInt = b := Int32.toInt_ofInt_of_le (by simpa using h3) (by omega)
  simp only [of32, to32, e1, e2]

theorem ltSz (x y : Sz) : ltOf cfSz x y = decide (y.1.toInt < x.1.toInt ∨ (y.1.toInt = x.1.toInt ∧ y.2.toInt < x.2.toInt)) := by
  unfold ltOf cfSz cmpI
  by_cases h : y.1.toInt - x.1.toInt = 0
  · rw [if_pos h]; apply decide_eq_decide.2; omega
  · rw [if_neg h]; apply decide_eq_decide.2; omega

theorem swoSz : SWO (ltOf cfSz) where
  irrefl x := by rw [ltSz]; simp
  trans x y z h1 h2 := by rw [ltSz] at *; simp only [decide_eq_true_eq] at *; omega
  ntrans x y z h1 h2 := by rw [ltSz] at *; simp only [decide_eq_false_iff_not] at *; omega

theorem cmpLays9 (blk off size : Nat) (w : World) : CmpLays Ybad.prog 9 #[] encSz 2 cfSz blk off size w :=
  fun _ _ _ _ x y => closure9_int _ _ _ _ _ (i32_bd _) (i32_bd _) (i32_bd _) (i32_bd _)

theorem holdsK_of_own {w : World} {base g cap : Nat} {zs : List (Int × Int)} (h32 : In32 zs)
    (h : w.ownsRow base 49 2 (.slice (some ⟨g, 0, none⟩) zs.length cap) zs.length (cellsOf zs)) : HoldsK encSz 2 w g 0 (zs.map to32).toArray ∧ g < w.heap.size ∧ base ≤ g := by
  rcases h.2 with ⟨hv, _⟩ | ⟨g', cap', cur, hv, hb, hh, h1, h2, h3, h4⟩
  · cases hv
  · simp only [Value.slice.injEq, Option.some.injEq, Addr.mk.injEq, and_true, true_and] at hv
    obtain ⟨rfl, rfl⟩ := hv
    refine ⟨?_, (Array.getElem?_eq_some_iff.1 hh).1, hb⟩
    intro t ht
    rw [size_flatK] at ht
    rw [get_flatK _ _ _ _ ht]
    have hsz : (zs.map to32).toArray.size = zs.length := by simp
    rw [hsz] at ht
    have hj : t / 2 < zs.length := by omega
    obtain ⟨b1, b2, b3, b4⟩ := h32 (t / 2)
    have hd : ((zs.map to32).toArray)[t / 2]! = to32 (zs.getD (t / 2) (0, 0)) := by
      simp [List.getElem?_eq_getElem hj, hj]
    rw [hd]
    obtain ⟨q1, q2⟩ := cellsOf_at zs (t / 2) hj
    have ho := of32_to32 _ b1 b2 b3 b4
    generalize zs.getD (t / 2) (0, 0) = p at *
    have o1 : (to32 p).1.toInt = p.1 := congrArg Prod.fst ho
    have o2 : (to32 p).2.toInt = p.2 := congrArg Prod.snd ho
    have hcell : w.cell? ⟨g, 0 + t, none⟩ = (cellsOf zs)[t]? := by
      simp only [World.cell?, hh]
      rw [← h4, List.getElem?_take_of_lt (by omega)]
      simp
    refine ⟨?_, by simp [World.frozen?, hh]⟩
    rw [hcell]
    rcases Nat.mod_two_eq_zero_or_one t with e | e
    · have et : t = t / 2 * 2 := by omega
      rw [e, et, q1]
      simp [encSz, o1]
    · have et : t = t / 2 * 2 + 1 := by omega
      rw [e, et, q2]
      simp [encSz, o2]

theorem below_sortWorldK {w : World} {B blk off n : Nat} {d : Array Sz} {os : Array Obj} (hB : B ≤ blk) (hBw : B ≤ w.heap.size) : RowKit.Below B w (sortWorldK encSz 2 w blk off n d os) := by
  refine ⟨rfl, rfl, rfl, ?_, fun k hk => ?_⟩
  · simp [sortWorldK, grow, putRowK, putRow, mapBlock, Sort.ahead]
  · show ((w.heap.modify blk _) ++ os)[k]? = _
    rw [Array.getElem?_append_left (by simp; omega), Array.getElem?_modify, if_neg (by omega)]

/-- What is known of the sorted list. -/
def Phi (zs l : List (Int × Int)) : Prop := l.Pairwise (fun a b => b.1 ≤ a.1) ∧ ∀ s, l.any (fun d => Plain.geS d s) = zs.any (fun d => Plain.geS d s)

theorem phi_of {zs : List (Int × Int)} (h32 : In32 zs) {d' : Array Sz} (hp : PermIn 0 zs.length (zs.map to32).toArray d') (hs : SortedIn (ltOf cfSz) 0 zs.length d') : (d'.toList.map of32).length = zs.length ∧ Phi zs (d'.toList.map of32) := by
  obtain ⟨h1, _, h3⟩ := hp
  have hsz : d'.size = zs.length := by simpa using h1
  have hperm : d'.toList.Perm (zs.map to32) := by
    have e1 : (d'.extract 0 zs.length) = d' := by rw [← hsz]; simp
    have e2 : ((zs.map to32).toArray.extract 0 zs.length) = (zs.map to32).toArray := by
      simp only [List.extract_toArray, List.extract_eq_take_drop, List.drop_zero, Nat.sub_zero]
      rw [List.take_of_length_le (by simp)]
    rw [e1, e2] at h3
    simpa using h3
  have hback : (zs.map to32).map of32 = zs := by
    rw [List.map_map]
    have : ∀ p ∈ zs, (of32 ∘ to32) p = id p := by
      intro p hp
      obtain ⟨j, hj, rfl⟩ := List.getElem_of_mem hp
      obtain ⟨b1, b2, b3, b4⟩ := h32 j
      have e : zs.getD j (0, 0) = zs[j] := by simp [List.getElem?_eq_getElem hj]
      rw [e] at b1 b2 b3 b4
      exact of32_to32 _ b1 b2 b3 b4
    rw [List.map_congr_left this, List.map_id]
  have hperm2 : (d'.toList.map of32).Perm zs := by rw [← hback]; exact hperm.map of32
  refine ⟨by simpa using hsz, ?_, fun s => ?_⟩
  · rw [List.pairwise_iff_getElem]
    intro i j hi hj hij
    simp only [List.length_map, Array.length_toList] at hi hj
    have := hs i j (Nat.zero_le _) hij (by omega)
    rw [getElem!_pos d' i hi, getElem!_pos d' j hj, ltSz] at this
    simp only [decide_eq_false_iff_not] at this
    simp only [List.getElem_map, Array.getElem_toList, of32]
    omega
  · rw [Bool.eq_iff_iff, List.any_eq_true, List.any_eq_true]
    exact ⟨fun ⟨x, hx, h⟩ => ⟨x, hperm2.mem_iff.1 hx, h⟩, fun ⟨x, hx, h⟩ => ⟨x, hperm2.mem_iff.2 hx, h⟩⟩

theorem row_of_holdsK {w : World} {g : Nat} {d : Array Sz} (hg : g < w.heap.size) (h : HoldsK encSz 2 w g 0 d) : Row w g (d.toList.map of32) := by
  refine ⟨hg, fun i hi => ?_⟩
  have hid : i < d.size := by simpa using hi
  have e : (d.toList.map of32).getD i (0, 0) = of32 d[i]! := by
    simp [List.getElem?_eq_getElem, hid, getElem!_pos d i hid]
  rw [e]
  have c0 := (h.cell hid (show 0 < 2 by omega)).1
  have c1 := (h.cell hid (show 1 < 2 by omega)).1
  simp only [Nat.zero_add, Nat.add_zero] at c0 c1
  exact ⟨by rw [c0]; simp [encSz, of32], by rw [c1]; simp [encSz, of32]⟩

theorem sort_any (base g cap : Nat) (zs : List (Int × Int)) (w : World) (h32 : In32 zs) (hlen : zs.length ≤ 1024) (hBw : base ≤ w.heap.size)
    (h : w.ownsRow base 49 2 (.slice (some ⟨g, 0, none⟩) zs.length cap) zs.length (cellsOf zs)) :
    Calls Ybad.prog 8 #[.slice (some ⟨g, 0, none⟩) zs.length cap, .func (.func 9) #[] #[]] w fun e w' => e = .returned (.tuple #[]) ∧ ∃ l : List (Int × Int), l.length = zs.length ∧ Phi zs l ∧ (0 < zs.length → Row w' g l) ∧ RowKit.Below base w w' := by
  obtain ⟨hH, hg, hb⟩ := holdsK_of_own h32 h
  have hsz : (zs.map to32).toArray.size = zs.length := by simp
  have eg : ∀ args w, (callFunc 9 args).run Ybad.prog w = .ok (.enter 9 args) w := enters_of Ybad.func9 (by kernel_rfl) rfl
  have hcon := AnyQ.slices_SortFunc Ybad.laysSort 2 Ybad.isAgg49 Ybad.sizeOf49 encSz (fun _ => rfl) (fun x v hv => by simp [encSz] at hv; rcases hv with rfl | rfl <;> rfl) cfSz swoSz 9 #[] g 0 cap (zs.map to32).toArray w eg (cmpLays9 g 0 _ w) hH hg (by omega)
  rw [hsz] at hcon
  refine hcon.mono fun e w' ⟨he, d', n, os, hp, hs, hw⟩ => ⟨he, d'.toList.map of32, (phi_of h32 hp hs).1, (phi_of h32 hp hs).2, fun _ => ?_, by rw [hw]; exact below_sortWorldK hb hBw⟩
  have hd' : d'.size = (zs.map to32).toArray.size := hp.1
  have h2 := holdsK_sortWorldK_c encSz 2 w g 0 (zs.map to32).toArray d' n os hH hg hd'
  rw [hw]
  exact row_of_holdsK (by simp [sortWorldK, grow, putRowK, putRow, mapBlock, Sort.ahead]; omega) h2

theorem sort_none (w : World) : Calls Ybad.prog 8 #[.slice none 0 0, .func (.func 9) #[] #[]] w fun e w' => e = .returned (.tuple #[]) ∧ w' = w :=
  AnyF.slices_SortFunc_none { Ybad.laysSort with } none 0 _ w

/-- roomOf of the nil slice. -/
theorem roomOf_nil (w : World) : Calls Ybad.prog 5 #[.slice none 0 0] w fun e w' => ∃ v l b1, e = .returned v ∧ l.length = 0 ∧ Phi [] l ∧ w.heap.size ≤ b1 ∧ w'.ownsRow b1 49 2 v (Plain.roomL l).length (cellsOf (Plain.roomL l)) ∧ RowKit.Below w.heap.size w w' :=
  room_any none 0 0 0 w (by omega) w.heap.size (Phi []) (by omega) (Nat.le_refl _)
    ((sort_none w).mono fun e w' ⟨he, hw⟩ => ⟨he, [], rfl, ⟨by simp, fun _ => rfl⟩, by omega, by rw [hw]; exact RowKit.Below.refl _ _⟩)

/-- roomOf of a slice of the call's own. -/
theorem roomOf_any (base g cap : Nat) (zs : List (Int × Int)) (w : World) (h32 : In32 zs) (hlen : zs.length ≤ 1024) (hBw : base ≤ w.heap.size)
    (h : w.ownsRow base 49 2 (.slice (some ⟨g, 0, none⟩) zs.length cap) zs.length (cellsOf zs)) :
    Calls Ybad.prog 5 #[.slice (some ⟨g, 0, none⟩) zs.length cap] w fun e w' => ∃ v l b1, e = .returned v ∧ l.length = zs.length ∧ Phi zs l ∧ w.heap.size ≤ b1 ∧ w'.ownsRow b1 49 2 v (Plain.roomL l).length (cellsOf (Plain.roomL l)) ∧ RowKit.Below base w w' :=
  room_any (some ⟨g, 0, none⟩) g zs.length cap w hlen base (Phi zs) (fun _ => rfl) hBw (sort_any base g cap zs w h32 hlen hBw h)
end Go.Proofs.YbulkdbqDoor
