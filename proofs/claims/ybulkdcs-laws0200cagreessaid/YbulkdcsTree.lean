import Derived.Test.YbulkdcsSort
namespace Go.Proofs.Ybulkdcs
open Go.Shelf Go.RowKit Go.Lib Go.Sort
set_option linter.unusedVariables false
set_option linter.unusedSimpArgs false

/-- Of the blocks that were, two alone are written. -/
structure GrY (x y : Nat) (w w' : World) : Prop where
  os : w'.os = w.os
  tape : w'.tape = w.tape
  output : w'.output = w.output
  size : w.heap.size ≤ w'.heap.size
  block : ∀ k, k < w.heap.size → k ≠ x → k ≠ y → w'.heap[k]? = w.heap[k]?
  dr : w.drawn ≤ w'.drawn
theorem GrY.trans {x y : Nat} {a b c : World} (h : GrY x y a b) (k : GrY x y b c) : GrY x y a c :=
  ⟨k.os.trans h.os, k.tape.trans h.tape, k.output.trans h.output, Nat.le_trans h.size k.size, fun i hi n1 n2 => (k.block i (Nat.lt_of_lt_of_le hi h.size) n1 n2).trans (h.block i hi n1 n2), Nat.le_trans h.dr k.dr⟩
theorem GrY.left {x y : Nat} {a b : World} (h : GrX x a b) : GrY x y a b := ⟨h.gb.os, h.gb.tape, h.gb.output, h.gb.size, fun i hi n1 _ => h.gb.block i hi (by intro e; cases e; exact n1 rfl), h.dr⟩
theorem GrY.right {x y : Nat} {a b : World} (h : GrX y a b) : GrY x y a b := ⟨h.gb.os, h.gb.tape, h.gb.output, h.gb.size, fun i hi _ n2 => h.gb.block i hi (by intro e; cases e; exact n2 rfl), h.dr⟩
theorem GrY.of_gr {x y : Nat} {a b : World} (h : Gr a b) : GrY x y a b := GrY.left (GrX.of_gr h)
theorem GrY.cell {x y : Nat} {a b : World} (h : GrY x y a b) {p : Addr} {v : Value} (hv : a.cell? p = some v) (n1 : p.block ≠ x) (n2 : p.block ≠ y) : b.cell? p = some v := by
  rw [World.cell?_of_block (h.block p.block (World.block_lt_of_cell? _ _ hv) n1 n2)]; exact hv
/-- Both blocks are one's own. -/
theorem GrY.own {x y : Nat} {a b c : World} (h : Gr a b) (k : GrY x y b c) (h1 : a.heap.size ≤ x) (h2 : a.heap.size ≤ y) : Gr a c :=
  Gr.of_below (h.below.trans ⟨k.os, k.tape, k.output, k.size, fun i hi => k.block i (Nat.lt_of_lt_of_le hi h.size) (by omega) (by omega)⟩) (Nat.le_trans h.drawn k.dr)
theorem GrX.block {x : Nat} {a b : World} (h : GrX x a b) {k : Nat} {o : Obj} (hv : a.heap[k]? = some o) (n : k ≠ x) : b.heap[k]? = some o :=
  (h.gb.block k (Array.getElem?_eq_some_iff.1 hv).1 (by intro e; cases e; exact n rfl)).trans hv

/-- The nodes beneath a node. -/
def Sub (node q : Nat) : Prop := ∃ d, (node + 1) * 2 ^ d ≤ q + 1 ∧ q + 1 < (node + 2) * 2 ^ d
theorem Sub.self (node : Nat) : Sub node node := ⟨0, by simp, by simp⟩
theorem two_pow_pos (d : Nat) : 1 ≤ 2 ^ d := Nat.one_le_two_pow
theorem Sub.left {node q : Nat} (h : Sub (2 * node + 1) q) : Sub node q := by
  obtain ⟨d, h1, h2⟩ := h
  refine ⟨d + 1, ?_, ?_⟩
  · rw [Nat.pow_succ, show (node + 1) * (2 ^ d * 2) = (2 * node + 1 + 1) * 2 ^ d by rw [Nat.mul_comm (2 ^ d) 2, ← Nat.mul_assoc]; congr 1; omega]; exact h1
  · rw [Nat.pow_succ, show (node + 2) * (2 ^ d * 2) = (2 * node + 4) * 2 ^ d by rw [Nat.mul_comm (2 ^ d) 2, ← Nat.mul_assoc]; congr 1; omega]
    exact Nat.lt_of_lt_of_le h2 (Nat.mul_le_mul_right _ (by omega))
theorem Sub.right {node q : Nat} (h : Sub (2 * node + 2) q) : Sub node q := by
  obtain ⟨d, h1, h2⟩ := h
  refine ⟨d + 1, ?_, ?_⟩
  · rw [Nat.pow_succ, show (node + 1) * (2 ^ d * 2) = (2 * node + 2) * 2 ^ d by rw [Nat.mul_comm (2 ^ d) 2, ← Nat.mul_assoc]; congr 1; omega]
    exact Nat.le_trans (Nat.mul_le_mul_right _ (by omega)) h1
  · rw [Nat.pow_succ, show (node + 2) * (2 ^ d * 2) = (2 * node + 2 + 2) * 2 ^ d by rw [Nat.mul_comm (2 ^ d) 2, ← Nat.mul_assoc]; congr 1; omega]; exact h2
theorem Sub.apart {node q : Nat} (h : Sub (2 * node + 1) q) (h' : Sub (2 * node + 2) q) : False := by
  obtain ⟨d, h1, h2⟩ := h
  obtain ⟨e, h3, h4⟩ := h'
  by_cases hde : d ≤ e
  · have := Nat.mul_le_mul_left (2 * node + 1 + 2) (Nat.pow_le_pow_right (show 0 < 2 by omega) hde)
    have e2 : (2 * node + 2 + 1) = 2 * node + 1 + 2 := by omega
    rw [e2] at h3
    omega
  · have hp : 2 ^ (e + 1) ≤ 2 ^ d := Nat.pow_le_pow_right (by omega) (by omega)
    have h5 := Nat.mul_le_mul_left (2 * node + 1 + 1) hp
    rw [Nat.pow_succ] at h5
    have h6 : (2 * node + 2 + 2) * 2 ^ e ≤ (2 * node + 1 + 1) * (2 ^ e * 2) := by
      rw [Nat.mul_comm (2 ^ e) 2, ← Nat.mul_assoc]
      exact Nat.mul_le_mul_right _ (by omega)
    omega
theorem Sub.not_left {node : Nat} (h : Sub (2 * node + 1) node) : False := by
  obtain ⟨d, h1, h2⟩ := h
  have := Nat.mul_le_mul_left (2 * node + 1 + 1) (two_pow_pos d)
  omega
theorem Sub.not_right {node : Nat} (h : Sub (2 * node + 2) node) : False := by
  obtain ⟨d, h1, h2⟩ := h
  have := Nat.mul_le_mul_left (2 * node + 2 + 1) (two_pow_pos d)
  omega

/-- The rows of the nodes for which P does not hold are as they were. -/
def SameB (wd : Nat) (B B' : Array Value) (P : Nat → Prop) : Prop := B'.size = B.size ∧ ∀ q i, ¬ P q → i < 2 * wd → B'[2 * q * wd + i]? = B[2 * q * wd + i]?
theorem SameB.trans {wd : Nat} {A B C : Array Value} {P : Nat → Prop} (h : SameB wd A B P) (k : SameB wd B C P) : SameB wd A C P := ⟨k.1.trans h.1, fun q i hq hi => (k.2 q i hq hi).trans (h.2 q i hq hi)⟩
theorem SameB.weak {wd : Nat} {A B : Array Value} {P Q : Nat → Prop} (h : SameB wd A B P) (k : ∀ q, P q → Q q) : SameB wd A B Q := ⟨h.1, fun q i hq hi => h.2 q i (fun hp => hq (k q hp)) hi⟩

/-- The box of a node bounds its sections. -/
def Bnd {m : Nat} (wd : Nat) (a : Nat → Nat → Int) (B : Array Value) (node : Nat) (l : List (Fin (m + 1))) : Prop :=
  ∀ i, i < wd → ∃ lo hi : Int, B[2 * node * wd + i]? = some (.int .i32 lo) ∧ B[2 * node * wd + (wd + i)]? = some (.int .i32 hi) ∧ ∀ j ∈ l, lo ≤ a j.val i ∧ a j.val i ≤ hi
theorem Bnd.same {m wd : Nat} {a : Nat → Nat → Int} {B B' : Array Value} {P : Nat → Prop} {node : Nat} {l : List (Fin (m + 1))} (h : Bnd wd a B node l) (k : SameB wd B B' P) (hn : ¬ P node) : Bnd wd a B' node l := fun i hi => by
  obtain ⟨lo, hi', h1, h2, h3⟩ := h i hi
  exact ⟨lo, hi', by rw [k.2 node i hn (by omega)]; exact h1, by rw [k.2 node _ hn (by omega)]; exact h2, h3⟩
theorem Bnd.perm {m wd : Nat} {a : Nat → Nat → Int} {B : Array Value} {node : Nat} {l l' : List (Fin (m + 1))} (h : Bnd wd a B node l) (k : l'.Perm l) : Bnd wd a B node l' := fun i hi => by
  obtain ⟨lo, hi', h1, h2, h3⟩ := h i hi
  exact ⟨lo, hi', h1, h2, fun j hj => h3 j (k.mem_iff.1 hj)⟩

/-- A tree's boxes. -/
inductive Tree {m : Nat} (wd : Nat) (a : Nat → Nat → Int) (B : Array Value) : Nat → List (Fin (m + 1)) → Prop
  | leaf {node : Nat} {l : List (Fin (m + 1))} : Bnd wd a B node l → wd = 0 ∨ l.length ≤ 16 → Tree wd a B node l
  | node {node : Nat} {l : List (Fin (m + 1))} : Bnd wd a B node l → 16 < l.length → Tree wd a B (2 * node + 1) (l.take (l.length / 2)) → Tree wd a B (2 * node + 2) (l.drop (l.length / 2)) → Tree wd a B node l
theorem Tree.same {m wd : Nat} {a : Nat → Nat → Int} {B B' : Array Value} {P : Nat → Prop} (k : SameB wd B B' P) {node : Nat} {l : List (Fin (m + 1))} (h : Tree wd a B node l) : (∀ q, Sub node q → ¬ P q) → Tree wd a B' node l := by
  induction h with
  | leaf hb hl => exact fun hp => .leaf (hb.same k (hp _ (Sub.self _))) hl
  | node hb hl _ _ ih1 ih2 => exact fun hp => .node (hb.same k (hp _ (Sub.self _))) hl (ih1 fun q hq => hp q hq.left) (ih2 fun q hq => hp q hq.right)

/-- What a split reads. -/
structure SpM (bt ab bb wd m nodes : Nat) (a : Nat → Nat → Int) (w : World) : Prop where
  g1 : w.cell? ⟨bt, 1, none⟩ = some (.int .i64 wd)
  g8 : w.cell? ⟨bt, 8, none⟩ = some (.slice (some ⟨bb, 0, none⟩) (nodes * 2 * wd) (nodes * 2 * wd))
  at_ : ∀ j i, j < m + 1 → i < wd → w.cell? ⟨ab, j * wd + i, none⟩ = some (.int .i32 (a j i))
theorem SpM.gry {bt ab bb wd m nodes ob : Nat} {a : Nat → Nat → Int} {w w' : World} (h : SpM bt ab bb wd m nodes a w) (g : GrY ob bb w w') (n1 : bt ≠ ob) (n2 : bt ≠ bb) (n3 : ab ≠ ob) (n4 : ab ≠ bb) : SpM bt ab bb wd m nodes a w' :=
  ⟨g.cell h.g1 n1 n2, g.cell h.g8 n1 n2, fun j i hj hi => g.cell (h.at_ j i hj hi) n3 n4⟩

/-- One node's row, by its two functions; the rest as it was. -/
structure BRow (B Bk : Array Value) (L wd : Nat) (lo hi : Nat → Int) : Prop where
  size : Bk.size = B.size
  lo_ : ∀ i, i < wd → Bk[L + i]? = some (.int .i32 (lo i))
  hi_ : ∀ i, i < wd → Bk[L + (wd + i)]? = some (.int .i32 (hi i))
  rest : ∀ j, ¬ (L ≤ j ∧ j < L + 2 * wd) → Bk[j]? = B[j]?
theorem BRow.setLo {B Bk : Array Value} {L wd : Nat} {lo hi : Nat → Int} (h : BRow B Bk L wd lo hi) (c : Nat) (hc : c < wd) (x : Int) : BRow B (Bk.setIfInBounds (L + c) (.int .i32 x)) L wd (fun i => if i = c then x else lo i) hi := by
  have hs : L + c < Bk.size := (Array.getElem?_eq_some_iff.1 (h.lo_ c hc)).1
  refine ⟨by simpa using h.size, fun i hi' => ?_, fun i hi' => ?_, fun j hj => ?_⟩
  · rw [Array.getElem?_setIfInBounds]
    by_cases e : i = c
    · subst e; rw [if_pos rfl, if_pos rfl, if_pos hs]
    · rw [if_neg (by omega), if_neg e, h.lo_ i hi']
  · rw [Array.getElem?_setIfInBounds, if_neg (by omega), h.hi_ i hi']
  · rw [Array.getElem?_setIfInBounds, if_neg (by omega), h.rest j hj]
theorem BRow.setHi {B Bk : Array Value} {L wd : Nat} {lo hi : Nat → Int} (h : BRow B Bk L wd lo hi) (c : Nat) (hc : c < wd) (x : Int) : BRow B (Bk.setIfInBounds (L + (wd + c)) (.int .i32 x)) L wd lo (fun i => if i = c then x else hi i) := by
  have hs : L + (wd + c) < Bk.size := (Array.getElem?_eq_some_iff.1 (h.hi_ c hc)).1
  refine ⟨by simpa using h.size, fun i hi' => ?_, fun i hi' => ?_, fun j hj => ?_⟩
  · rw [Array.getElem?_setIfInBounds, if_neg (by omega), h.lo_ i hi']
  · rw [Array.getElem?_setIfInBounds]
    by_cases e : i = c
    · subst e; rw [if_pos rfl, if_pos rfl, if_pos hs]
    · rw [if_neg (by omega), if_neg e, h.hi_ i hi']
  · rw [Array.getElem?_setIfInBounds, if_neg (by omega), h.rest j hj]
theorem BRow.same {B Bk : Array Value} {node wd : Nat} {lo hi : Nat → Int} (h : BRow B Bk (2 * node * wd) wd lo hi) : SameB wd B Bk (fun q => q = node) := by
  refine ⟨h.size, fun q i hq hi' => h.rest _ ?_⟩
  rcases Nat.lt_or_gt_of_ne hq with hlt | hgt
  · have := Nat.mul_le_mul_right wd (show 2 * q + 2 ≤ 2 * node by omega)
    rw [Nat.add_mul] at this
    omega
  · have := Nat.mul_le_mul_right wd (show 2 * node + 2 ≤ 2 * q by omega)
    rw [Nat.add_mul] at this
    omega

theorem box_any (b bb nodes wd node : Nat) (w : World) (hwd : wd = 0 ∨ wd = 2 ∨ wd = 4) (h1 : w.cell? ⟨b, 1, none⟩ = some (.int .i64 wd)) (h8 : w.cell? ⟨b, 8, none⟩ = some (.slice (some ⟨bb, 0, none⟩) (nodes * 2 * wd) (nodes * 2 * wd))) (hn : node < nodes) (hnb : nodes ≤ 200) (hz : wd = 0 → node = 0) :
    Calls Yba.prog 22 #[.pointer (some ⟨b, 0, none⟩), .int .i64 node] w fun e w' =>
      e = .returned (.tuple #[.slice (some ⟨bb, 2 * node * wd, none⟩) wd (nodes * 2 * wd - 2 * node * wd), .slice (some ⟨bb, 2 * node * wd + wd, none⟩) wd (nodes * 2 * wd - (2 * node * wd + wd))]) ∧ Gr w w' := by
  have e1 : 2 * node * wd + wd = (2 * node + 1) * wd := by rw [Nat.add_mul, Nat.one_mul]
  rw [e1]
  rcases hwd with rfl | rfl | rfl
  · obtain rfl := hz rfl
    exact box_0 b 0 bb w (by simpa using h1) (by simpa using h8)
  · exact box_2 b 0 bb (nodes * 2 * 2) node w (by simpa using h1) (by simpa using h8) (by omega) (by omega) (by omega)
  · exact box_4 b 0 bb (nodes * 2 * 4) node w (by simpa using h1) (by simpa using h8) (by omega) (by omega) (by omega)
end Go.Proofs.Ybulkdcs
