import Derived.Test.YbulkdbqDoorCmp
import Derived.Shelf.Strconv.Itoa3
import Derived.Lib.ItoaLen
import Derived.Shelf.Lay
import Derived.Ground.NamesProg
import Derived.Deep.RegionWith
namespace Go.Proofs.YbulkdbqDoor
open Go.Shelf Go.RowKit Go.Lib Go.Sort
set_option linter.unusedVariables false
set_option linter.unusedSimpArgs false
shelf_lay LaysM.n171 Nm 171 at Ybad as Ybad.laysItoa

/-- The library's table lies in its variable. -/
def Tab (w : World) : Prop := Lib.TabIs Ybad.prog w "internal/strconv.uint64pow10" .u64 Lib.pow10Tab
theorem gPow : Ybad.prog.globalNamed "internal/strconv.uint64pow10" = some 0 := by kernel_rfl
theorem Tab.below {w w' : World} (h : Tab w) (hb : Below w.heap.size w w') : Tab w' := by
  unfold Tab Lib.TabIs World.var? at h ⊢
  rw [gPow] at h ⊢
  simp only [Option.bind_some] at h ⊢
  have hlt : 0 < w.heap.size := by
    rcases Nat.lt_or_ge 0 w.heap.size with h' | h'
    · exact h'
    · rw [Array.getElem?_eq_none h'] at h; cases h
  rw [hb.block 0 hlt]
  exact h

theorem below_grow (w : World) (k : Nat) (os : Array Obj) : Below w.heap.size w (grow (w.drewN k) os) :=
  ⟨rfl, rfl, rfl, by simp [grow, World.drewN], fun j hj => by
    show (w.heap ++ os)[j]? = _
    rw [Array.getElem?_append_left hj]⟩

/-- A numeral's bytes. -/
def itB (n : Int) : ByteArray := ⟨(Lib.itoa n).toArray⟩
theorem itB_size (n : Int) (h0 : -9223372036854775808 ≤ n) (h1 : n ≤ 9223372036854775807) : (itB n).size ≤ 21 := by
  have := Lib.itoa_length_le n h0 h1
  show (Lib.itoa n).toArray.size ≤ 21
  simpa using this

theorem itoa_any (n : Int) (w : World) (h0 : -9223372036854775808 ≤ n) (h1 : n ≤ 9223372036854775807) (hT : Tab w) :
    Calls Ybad.prog 16 #[.int .i64 n] w fun e w' => e = .returned (.string (itB n)) ∧ Below w.heap.size w w' :=
  (Any.strconv_Itoa Ybad.laysItoa n h0 h1 w hT).mono fun e w' ⟨he, k, os, hw⟩ => ⟨he, by rw [hw]; exact below_grow _ _ _⟩

def pluralB (n : Int) (th : ByteArray) : ByteArray := if n = 1 then ⟨#[49, 32]⟩ ++ th else itB n ++ ⟨#[32]⟩ ++ th ++ ⟨#[115]⟩
def coreB : ByteArray := ⟨#[99, 111, 114, 101]⟩

set_option maxHeartbeats 1000000 in
theorem plural_any (n : Int) (w : World) (h0 : -9223372036854775808 ≤ n) (h1 : n ≤ 9223372036854775807) (hT : Tab w) :
    Calls Ybad.prog 15 #[.int .i64 n, .string ⟨#[99, 111, 114, 101]⟩] w fun e w' => e = .returned (.string (pluralB n coreB)) ∧ Below w.heap.size w w' := by
  by_cases hn : n = 1
  · subst hn
    clear hT
    go_enter Ybad.func15, Ybad.ntmps15
    go_wp2_with fail
    go_ret
    exact ⟨rfl, Below.refl _ _⟩
  · have hcon := itoa_any n w h0 h1 hT
    have hs := itB_size n h0 h1
    have hb : (n == 1) = false := by simpa using hn
    have hfin : pluralB n coreB = itB n ++ ⟨#[32]⟩ ++ coreB ++ ⟨#[115]⟩ := if_neg hn
    rw [hfin]
    clear hfin hT
    generalize itB n = s at *
    go_enter Ybad.func15, Ybad.ntmps15
    go_wp2_with (go_at_call 16; refine hcon.mono ?_; rintro e w' ⟨rfl, hB⟩)
    go_ret
    exact ⟨rfl, hB⟩

theorem pluralB_size (n : Int) (h0 : -9223372036854775808 ≤ n) (h1 : n ≤ 9223372036854775807) : (pluralB n coreB).size ≤ 27 := by
  unfold pluralB
  split
  · decide
  · have h := itB_size n h0 h1
    generalize itB n = s at *
    simp only [ByteArray.size_append]
    have e1 : (ByteArray.mk #[32]).size = 1 := rfl
    have e2 : coreB.size = 4 := rfl
    have e3 : (ByteArray.mk #[115]).size = 1 := rfl
    omega

def sizeB (c m : Int) : ByteArray := pluralB c coreB ++ ⟨#[32, 97, 110, 100, 32]⟩ ++ itB m ++ ⟨#[32, 77, 66]⟩

/-- Behind the first call: the boxed size is as it was. -/
theorem kept2 {w w1 : World} {a b : Value} {t : TypeId} (hB : RowKit.Below (w.alloc (.cells #[a, b] t)).drew.heap.size (w.alloc (.cells #[a, b] t)).drew w1) :
    w1.cell? ⟨w.heap.size, 0, none⟩ = some a ∧ w1.cell? ⟨w.heap.size, 1, none⟩ = some b ∧ RowKit.Below w.heap.size w w1 :=
  ⟨(hB.cell (p := ⟨w.heap.size, 0, none⟩) (by simp)).trans (by simp), (hB.cell (p := ⟨w.heap.size, 1, none⟩) (by simp)).trans (by simp),
    ((RowKit.Below.refl _ _).alloc (Nat.le_refl _) _).drew.trans (hB.mono (by simp))⟩

set_option maxHeartbeats 2000000 in
set_option maxRecDepth 100000 in
theorem string_any (c m : Int) (w : World) (hc0 : -9223372036854775808 ≤ c) (hc1 : c ≤ 9223372036854775807) (hm0 : -9223372036854775808 ≤ m) (hm1 : m ≤ 9223372036854775807) (hT : Tab w) :
    Calls Ybad.prog 10 #[.agg #[.int .i64 c, .int .i64 m]] w fun e w' => e = .returned (.string (sizeB c m)) ∧ RowKit.Below w.heap.size w w' := by
  have hp : ∀ W, RowKit.Below w.heap.size w W → Calls Ybad.prog 15 #[.int .i64 c, .string ⟨#[99, 111, 114, 101]⟩] W fun e w' => e = .returned (.string (pluralB c coreB)) ∧ RowKit.Below W.heap.size W w' := fun W hW => plural_any c W hc0 hc1 (hT.below hW)
  have hi : ∀ W, RowKit.Below w.heap.size w W → Calls Ybad.prog 16 #[.int .i64 m] W fun e w' => e = .returned (.string (itB m)) ∧ RowKit.Below W.heap.size W w' := fun W hW => itoa_any m W hm0 hm1 (hT.below hW)
  have hs1 := pluralB_size c hc0 hc1
  have hs2 := itB_size m hm0 hm1
  have HP := hide hp
  have HI := hide hi
  unfold sizeB
  clear hp hi hT
  generalize pluralB c coreB = s1 at *
  generalize itB m = s2 at *
  go_enter Ybad.func10, Ybad.ntmps10
  go_wp2_with fail
  go_region_with (first
    | (go_at_call 15; refine (HP.out _ ?_).mono ?_; exact ((RowKit.Below.refl _ _).alloc (Nat.le_refl _) _).drew; rintro e w1 ⟨rfl, hB1⟩; obtain ⟨k1, k2, k3⟩ := kept2 hB1)
    | (go_at_call 16; refine (HI.out _ ?_).mono ?_; exact k3; rintro e w2 ⟨rfl, hB2⟩))
  all_goals go_wp2
  all_goals go_ret
  all_goals exact ⟨rfl, k3.trans (hB2.mono k3.size)⟩
end Go.Proofs.YbulkdbqDoor
