import Derived.Test.YbulkdcsRows
import Derived.WalkKit
import Derived.WalkSpells
import Derived.WalkSmall
import Derived.ProofKit
import Derived.OpenShut
import Derived.Below
import Derived.Sort.Grow
import Derived.Shelf.Spec.BitsCarry
import Derived.Shelf.Lay
import Derived.Ground.Names7Prog
import Derived.RegionTactic
import Derived.BigRegion
import Derived.Deep.QuietTactic
import Derived.BigQuiet
import Derived.Shelf.SlSortCmp.QuietGrown
namespace Go.Proofs.Ybulkdcs
open Go.Shelf Go.RowKit Go.Lib Go.Sort
set_option linter.unusedVariables false
set_option linter.unusedSimpArgs false
shelf_lay Lays7.n25 Nm7 25 at Yba as Yba.laysAdd64

theorem hide {p : Prop} (h : p) : Hid p := h

/-- w' is w with some draws and some blocks more. -/
def Gr (w w' : World) : Prop := ∃ q os, w' = grow (w.drewN q) os

theorem Gr.refl (w : World) : Gr w w := ⟨0, #[], by rw [grow_empty]; rfl⟩
theorem Gr.trans {a b c : World} (h : Gr a b) (k : Gr b c) : Gr a c := by
  obtain ⟨q, os, rfl⟩ := h
  obtain ⟨q', os', rfl⟩ := k
  exact ⟨q + q', os ++ os', by show grow (grow ((a.drewN q).drewN q') os) os' = _; rw [grow_grow, World.drewN_drewN]⟩
theorem Gr.alloc {a b : World} (h : Gr a b) (o : Obj) : Gr a (b.alloc o) := h.trans ⟨0, #[o], by rw [alloc_eq_grow]; rfl⟩
theorem Gr.drewN {a b : World} (h : Gr a b) (n : Nat) : Gr a (b.drewN n) := h.trans ⟨n, #[], by rw [grow_empty]⟩
theorem Gr.drew {a b : World} (h : Gr a b) : Gr a b.drew := h.trans ⟨1, #[], by rw [grow_empty]; rfl⟩
theorem Gr.of_grow {a b : World} (h : Gr a b) (n : Nat) (os : Array Obj) : Gr a (grow (b.drewN n) os) := h.trans ⟨n, os, rfl⟩
theorem Gr.below {a b : World} (h : Gr a b) : RowKit.Below a.heap.size a b := by
  obtain ⟨q, os, rfl⟩ := h
  exact ⟨rfl, rfl, rfl, by simp [grow, World.drewN], fun j hj => by
    show (a.heap ++ os)[j]? = _
    rw [Array.getElem?_append_left hj]⟩
theorem Gr.size {a b : World} (h : Gr a b) : a.heap.size ≤ b.heap.size := h.below.size
theorem Gr.cell {a b : World} (h : Gr a b) {p : Addr} {v : Value} (hv : a.cell? p = some v) : b.cell? p = some v :=
  (h.below.cell (World.block_lt_of_cell? _ _ hv)).trans hv
theorem Gr.block {a b : World} (h : Gr a b) {k : Nat} {o : Obj} (hv : a.heap[k]? = some o) : b.heap[k]? = some o :=
  (h.below.block k (Array.getElem?_eq_some_iff.1 hv).1).trans hv
/-- A store into a block that is new. -/
theorem Gr.setCell {a b : World} (h : Gr a b) {p : Addr} (hp : a.heap.size ≤ p.block) (v : Value) : Gr a (b.setCell p v) := by
  obtain ⟨q, os, rfl⟩ := h
  refine ⟨q, (World.setCell (grow (a.drewN q) os) p v).heap.extract a.heap.size (a.heap.size + os.size), ?_⟩
  have hh : (World.setCell (grow (a.drewN q) os) p v).heap = a.heap ++ (World.setCell (grow (a.drewN q) os) p v).heap.extract a.heap.size (a.heap.size + os.size) := by
    apply Array.ext_getElem?
    intro k
    have hsz : (World.setCell (grow (a.drewN q) os) p v).heap.size = a.heap.size + os.size := by simp [World.setCell, grow, World.drewN]
    by_cases hk : k < a.heap.size
    · rw [Array.getElem?_append_left hk]
      have : (World.setCell (grow (a.drewN q) os) p v).heap[k]? = (grow (a.drewN q) os).heap[k]? := Below.heap_setCell _ _ _ _ (by omega)
      rw [this]
      show (a.heap ++ os)[k]? = _
      rw [Array.getElem?_append_left hk]
    · rw [Array.getElem?_append_right (by omega), Array.getElem?_extract]
      by_cases hk2 : k < a.heap.size + os.size
      · rw [if_pos (by rw [hsz]; omega)]
        congr 1; omega
      · rw [if_neg (by rw [hsz]; omega), Array.getElem?_eq_none (by rw [hsz]; omega)]
  have e1 : (World.setCell (grow (a.drewN q) os) p v).tape = a.tape := rfl
  have e2 : (World.setCell (grow (a.drewN q) os) p v).drawn = a.drawn + q := rfl
  have e3 : (World.setCell (grow (a.drewN q) os) p v).os = a.os := rfl
  have e4 : (World.setCell (grow (a.drewN q) os) p v).output = a.output := rfl
  generalize World.setCell (grow (a.drewN q) os) p v = X at *
  obtain ⟨Xh, Xt, Xd, Xo, Xp⟩ := X
  simp only at e1 e2 e3 e4 hh
  subst e1 e2 e3 e4
  show _ = ({ heap := a.heap ++ Xh.extract a.heap.size (a.heap.size + os.size), tape := a.tape, drawn := a.drawn + q, os := a.os, output := a.output } : World)
  rw [← hh]

theorem add64_0 (x y : Int) (hx : 0 ≤ x) (hy : 0 ≤ y) (w : World) : (callFunc 32 #[.int .u64 x, .int .u64 y, .int .u64 0]).run Yba.prog w =
    .ok (.value (.tuple #[.int .u64 ((x + y) % 18446744073709551616), .int .u64 ((x + y) / 18446744073709551616)])) w := by
  obtain ⟨x, rfl⟩ := Int.eq_ofNat_of_zero_le hx
  obtain ⟨y, rfl⟩ := Int.eq_ofNat_of_zero_le hy
  refine (Any7.bits_Add64 Yba.laysAdd64 x y 0 (by omega) w).trans ?_
  congr 5 <;> omega

/-- The order of two numbers as Go's compare says it. -/
def cmpI (x y : Int) : Int := if x < y then -1 else if y < x then 1 else 0

set_option maxHeartbeats 400000 in
theorem cmpU64 (x y : Int) (w : World) : Calls Yba.prog 26 #[.int .u64 x, .int .u64 y] w fun e w' => e = .returned (.int .i64 (cmpI x y)) ∧ w' = w := by
  unfold cmpI
  by_cases h1 : x < y
  · rw [if_pos h1]
    go_enter Yba.func26, Yba.ntmps26
    go_wp2
    go_ret
    exact ⟨rfl, rfl⟩
  · rw [if_neg h1]
    by_cases h2 : y < x
    · rw [if_pos h2]
      go_enter Yba.func26, Yba.ntmps26
      go_wp2
      go_ret
      exact ⟨rfl, rfl⟩
    · rw [if_neg h2]
      go_enter Yba.func26, Yba.ntmps26
      go_wp2
      go_ret
      exact ⟨rfl, rfl⟩

set_option maxHeartbeats 400000 in
theorem cmpI32 (x y : Int) (w : World) : Calls Yba.prog 31 #[.int .i32 x, .int .i32 y] w fun e w' => e = .returned (.int .i64 (cmpI x y)) ∧ w' = w := by
  unfold cmpI
  by_cases h1 : x < y
  · rw [if_pos h1]
    go_enter Yba.func31, Yba.ntmps31
    go_wp2
    go_ret
    exact ⟨rfl, rfl⟩
  · rw [if_neg h1]
    by_cases h2 : y < x
    · rw [if_pos h2]
      go_enter Yba.func31, Yba.ntmps31
      go_wp2
      go_ret
      exact ⟨rfl, rfl⟩
    · rw [if_neg h2]
      go_enter Yba.func31, Yba.ntmps31
      go_wp2
      go_ret
      exact ⟨rfl, rfl⟩

/-- A position's two cells: the carry, the low word; z the sum itself. -/
def encP (z : Int) : List Value := [.int .u64 (z / 18446744073709551616), .int .u64 (z % 18446744073709551616)]
def posV (z : Int) : Value := .agg #[.int .u64 (z / 18446744073709551616), .int .u64 (z % 18446744073709551616)]

theorem cmp_pos (p q : Int) : (if p / 18446744073709551616 = q / 18446744073709551616 then cmpI (p % 18446744073709551616) (q % 18446744073709551616) else cmpI (p / 18446744073709551616) (q / 18446744073709551616)) = cmpI p q := by
  unfold cmpI
  split <;> split <;> split <;> (try split) <;> (try split) <;> omega

set_option maxHeartbeats 1000000 in
theorem compare_int (a b c d : Int) (w : World) :
    Calls Yba.prog 15 #[.agg #[.int .u64 a, .int .u64 b], .agg #[.int .u64 c, .int .u64 d]] w fun e w' => e = .returned (.int .i64 (if a = c then cmpI b d else cmpI a c)) ∧ Gr w w' := by
  by_cases h : a = c
  · subst h
    rw [if_pos rfl]
    have hb : (a != a) = false := by simp
    have hcon := fun W => cmpU64 b d W
    generalize cmpI b d = r at *
    go_enter Yba.func15, Yba.ntmps15
    go_wp2_with (go_at_call 26; refine (hcon _).mono ?_; rintro e w' ⟨rfl, rfl⟩)
    go_ret
    exact ⟨rfl, ((Gr.refl _).alloc _).alloc _⟩
  · rw [if_neg h]
    have hb : (a != c) = true := by simpa using h
    have hcon := fun W => cmpU64 a c W
    generalize cmpI a c = r at *
    clear h
    go_enter Yba.func15, Yba.ntmps15
    go_wp2_with (go_at_call 26; refine (hcon _).mono ?_; rintro e w' ⟨rfl, rfl⟩)
    go_ret
    exact ⟨rfl, ((Gr.refl _).alloc _).alloc _⟩

/-- position.compare: the order of the sums themselves. -/
theorem compare_any (p q : Int) (w : World) : Calls Yba.prog 15 #[posV p, posV q] w fun e w' => e = .returned (.int .i64 (cmpI p q)) ∧ Gr w w' := by
  have h := compare_int (p / 18446744073709551616) (p % 18446744073709551616) (q / 18446744073709551616) (q % 18446744073709551616) w
  rw [cmp_pos] at h
  exact h

def endCmp (p q : Int) : Int := if p ≤ q then -1 else 1

set_option maxHeartbeats 1000000 in
/-- The closure of coordinates. -/
theorem closure21_int (a b c d r : Int) (w : World) (hr : r ≤ 0 ∨ 0 < r) (hcon : ∀ W, Calls Yba.prog 15 #[.agg #[.int .u64 a, .int .u64 b], .agg #[.int .u64 c, .int .u64 d]] W fun e w' => e = .returned (.int .i64 r) ∧ Gr W w') :
    Calls Yba.prog 21 #[.agg #[.int .u64 a, .int .u64 b], .agg #[.int .u64 c, .int .u64 d]] w fun e w' => e = .returned (.int .i64 (if r ≤ 0 then -1 else 1)) ∧ Gr w w' := by
  have HC := hide hcon
  clear hcon
  rcases hr with h | h
  · rw [if_pos h]
    go_enter Yba.func21, Yba.ntmps21
    go_wp2_with (go_at_call 15; refine (HC.out _).mono ?_; rintro e w' ⟨rfl, hg⟩)
    go_ret
    exact ⟨rfl, (((Gr.refl _).alloc _).alloc _).trans hg⟩
  · rw [if_neg (by omega)]
    go_enter Yba.func21, Yba.ntmps21
    go_wp2_with (go_at_call 15; refine (HC.out _).mono ?_; rintro e w' ⟨rfl, hg⟩)
    go_ret
    exact ⟨rfl, (((Gr.refl _).alloc _).alloc _).trans hg⟩

theorem closure21 (p q : Int) (w : World) : Calls Yba.prog 21 #[posV p, posV q] w fun e w' => e = .returned (.int .i64 (endCmp p q)) ∧ Gr w w' := by
  have h := closure21_int _ _ _ _ (cmpI p q) w (by omega) (fun W => compare_any p q W)
  have e : (if cmpI p q ≤ 0 then (-1 : Int) else 1) = endCmp p q := by
    unfold cmpI endCmp
    split <;> split <;> (try split) <;> omega
  rw [e] at h
  exact h

set_option maxHeartbeats 1000000 in
/-- after(at, n): the sum. -/
theorem after_any (x y : Int) (hx : 0 ≤ x) (hy : 0 ≤ y) (w : World) :
    Calls Yba.prog 19 #[.int .u64 x, .int .u64 y] w fun e w' => e = .returned (posV (x + y)) ∧ Gr w w' := by
  have ha := fun W => add64_0 x y hx hy W
  unfold posV
  generalize (x + y) % 18446744073709551616 = lo at *
  generalize (x + y) / 18446744073709551616 = hi at *
  go_enter Yba.func19, Yba.ntmps19
  go_wp2_with (simp only [ha])
  exact bodyPost_ret (v := .agg #[.int .u64 hi, .int .u64 lo]) (by simp [results, Yba.results19, go_sem]) rfl ⟨rfl, (Gr.refl _).alloc _⟩

theorem Gr.of_below {a b : World} (h : RowKit.Below a.heap.size a b) (hd : a.drawn ≤ b.drawn) : Gr a b := by
  refine ⟨b.drawn - a.drawn, b.heap.extract a.heap.size b.heap.size, ?_⟩
  obtain ⟨h1, h2, h3, h4, h5⟩ := h
  obtain ⟨bh, bt, bd, bo, bp⟩ := b
  simp only at h1 h2 h3 h4 h5 hd ⊢
  subst h1 h2 h3
  show _ = ({ heap := a.heap ++ bh.extract a.heap.size bh.size, tape := a.tape, drawn := a.drawn + (bd - a.drawn), os := a.os, output := a.output } : World)
  have e1 : a.drawn + (bd - a.drawn) = bd := by omega
  have e2 : a.heap ++ bh.extract a.heap.size bh.size = bh := by
    apply Array.ext_getElem?
    intro k
    by_cases hk : k < a.heap.size
    · rw [Array.getElem?_append_left hk, h5 k hk]
    · rw [Array.getElem?_append_right (by omega), Array.getElem?_extract]
      by_cases hk2 : k < bh.size
      · rw [if_pos (by omega)]; congr 1; omega
      · rw [if_neg (by omega), Array.getElem?_eq_none (by omega)]
  rw [e1, e2]
theorem Gr.drawn {a b : World} (h : Gr a b) : a.drawn ≤ b.drawn := by
  obtain ⟨q, os, rfl⟩ := h
  show a.drawn ≤ a.drawn + q
  omega

/-- Only block bl among the old ones may have turned; draws and new blocks. -/
structure GrX (bl : Nat) (w w' : World) : Prop where
  gb : w.grownBy w' (some bl)
  dr : w.drawn ≤ w'.drawn
theorem GrX.of_gr {bl : Nat} {a b : World} (h : Gr a b) : GrX bl a b := ⟨⟨h.below.os, h.below.tape, h.below.output, h.below.size, fun k hk _ => h.below.block k hk⟩, h.drawn⟩
theorem GrX.trans {bl : Nat} {a b c : World} (h : GrX bl a b) (k : GrX bl b c) : GrX bl a c :=
  ⟨⟨k.gb.os.trans h.gb.os, k.gb.tape.trans h.gb.tape, k.gb.output.trans h.gb.output, Nat.le_trans h.gb.size k.gb.size, fun i hi hne => (k.gb.block i (Nat.lt_of_lt_of_le hi h.gb.size) hne).trans (h.gb.block i hi hne)⟩, Nat.le_trans h.dr k.dr⟩
theorem GrX.set {bl : Nat} (w : World) (o : Nat) (v : Value) : GrX bl w (w.setCell ⟨bl, o, none⟩ v) :=
  ⟨⟨rfl, rfl, rfl, by simp [World.setCell], fun k hk hne => Below.heap_setCell _ _ _ _ (by intro e; exact hne (by rw [e]))⟩, Nat.le_refl _⟩
/-- A block of one's own was written. -/
theorem Gr.x {bl : Nat} {a b c : World} (h : Gr a b) (k : GrX bl b c) (hb : a.heap.size ≤ bl) : Gr a c :=
  Gr.of_below (h.below.trans ⟨k.gb.os, k.gb.tape, k.gb.output, k.gb.size, fun i hi => k.gb.block i (Nat.lt_of_lt_of_le hi h.size) (by intro e; cases e; omega)⟩) (Nat.le_trans h.drawn k.dr)
end Go.Proofs.Ybulkdcs
