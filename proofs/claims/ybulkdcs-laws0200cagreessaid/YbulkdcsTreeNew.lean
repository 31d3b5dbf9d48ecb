import Derived.Test.YbulkdcsFind
import Derived.Test.YbulkdcsPlain
import Derived.Deep.RegionLaw
namespace Go.Proofs.Ybulkdcs
open Go.Shelf Go.RowKit Go.Lib Go.Sort
set_option linter.unusedVariables false
set_option linter.unusedSimpArgs false

/-- A placement's nine cells, whatever its length. -/
theorem plArr_form (l : List Int) (hl : l.length = 0 ∨ l.length = 2 ∨ l.length = 4) : ∃ v1 v2 v3 v4 v5 v6 v7 v8 : Int, plArr l = #[.int .i64 l.length, .int .u64 v1, .int .u64 v2, .int .u64 v3, .int .u64 v4, .int .u64 v5, .int .u64 v6, .int .u64 v7, .int .u64 v8] ∧
    (∀ c, c < l.length → (plArr l)[1 + c * 2]? = some (.int .u64 (l.getD c 0 / 18446744073709551616)) ∧ (plArr l)[1 + c * 2 + 1]? = some (.int .u64 (l.getD c 0 % 18446744073709551616))) := by
  match l, hl with
  | [], _ => exact ⟨_, _, _, _, _, _, _, _, rfl, fun c hc => by simp at hc⟩
  | [a, b], _ =>
    refine ⟨_, _, _, _, _, _, _, _, rfl, fun c hc => ?_⟩
    match c, hc with
    | 0, _ => exact ⟨rfl, rfl⟩
    | 1, _ => exact ⟨rfl, rfl⟩
  | [a, b, c', d], _ =>
    refine ⟨_, _, _, _, _, _, _, _, rfl, fun c hc => ?_⟩
    match c, hc with
    | 0, _ => exact ⟨rfl, rfl⟩
    | 1, _ => exact ⟨rfl, rfl⟩
    | 2, _ => exact ⟨rfl, rfl⟩
    | 3, _ => exact ⟨rfl, rfl⟩

/-- The blocks that were are as they were. -/
abbrev Kp (w w' : World) : Prop := w.grownBy w' none
theorem Kp.refl (w : World) : Kp w w := ⟨rfl, rfl, rfl, Nat.le_refl _, fun _ _ _ => rfl⟩
theorem Kp.trans {a b c : World} (h : Kp a b) (k : Kp b c) : Kp a c := grownBy.trans0 h k
theorem Kp.gr {a b c : World} (h : Kp a b) (k : Gr b c) : Kp a c := h.trans k.none
theorem Kp.by_ {a b c : World} {r : Option Nat} (h : Kp a b) (k : b.grownBy c r) (hr : ∀ x, r = some x → a.heap.size ≤ x) : Kp a c :=
  ⟨k.os.trans h.os, k.tape.trans h.tape, k.output.trans h.output, Nat.le_trans h.size k.size, fun i hi _ => (k.block i (Nat.lt_of_lt_of_le hi h.size) (by intro e; have := hr i e.symm; omega)).trans (h.block i hi (by simp))⟩
theorem Kp.x {a b c : World} {x : Nat} (h : Kp a b) (k : GrX x b c) (hx : a.heap.size ≤ x) : Kp a c := h.by_ k.gb (by intro y e; cases e; exact hx)
theorem Kp.y {a b c : World} {x y : Nat} (h : Kp a b) (k : GrY x y b c) (hx : a.heap.size ≤ x) (hy : a.heap.size ≤ y) : Kp a c :=
  ⟨k.os.trans h.os, k.tape.trans h.tape, k.output.trans h.output, Nat.le_trans h.size k.size, fun i hi _ => (k.block i (Nat.lt_of_lt_of_le hi h.size) (by omega) (by omega)).trans (h.block i hi (by simp))⟩
theorem Kp.cell0 {a b : World} (h : Kp a b) {p : Addr} {v : Value} (hv : a.cell? p = some v) : b.cell? p = some v := h.cell hv (by simp)
theorem Kp.block0 {a b : World} (h : Kp a b) {k : Nat} {o : Obj} (hv : a.heap[k]? = some o) : b.heap[k]? = some o := (h.block k (Array.getElem?_eq_some_iff.1 hv).1 (by simp)).trans hv
theorem SecAt.kp {w w' : World} {b o : Nat} {s : Sec} (h : SecAt w b o s) (g : Kp w w') : SecAt w' b o s := ⟨g.cell0 h.c1, g.cell0 h.c2, g.cell0 h.c3, g.cell0 h.c4, g.cell0 h.c5⟩

/-- The coordinates of the sections, in a row. -/
def AtC (wd : Nat) (a : Nat → Nat → Int) (j : Nat) (A : Array Value) : Prop := ∀ t, t < j → ∀ i, i < wd → A[t * wd + i]? = some (.int .i32 (a t i))
theorem AtC.step {wd j : Nat} {a : Nat → Nat → Int} {A A' : Array Value} {f : Nat → Int} (h : AtC wd a j A) (hu : Upd A A' (j * wd) wd f) (hf : ∀ i, i < wd → f i = a j i) : AtC wd a (j + 1) A' := by
  intro t ht i hi
  by_cases e : t = j
  · subst e
    rw [hu.2, if_pos (by omega), show t * wd + i - t * wd = i by omega, hf i hi]
  · have := Nat.mul_le_mul_right wd (show t + 1 ≤ j by omega)
    rw [Nat.add_mul, Nat.one_mul] at this
    rw [hu.2, if_neg (by omega)]
    exact h t (by omega) i hi
/-- The coordinates. -/
def crdA (S : Nat → List Int) (s : Nat → Sec) (idx : Nat → Nat) (k : Int) (j i : Nat) : Int := crd S (fun i => (placeL (s (idx j)) k).getD i 0) i

/-- The table of sections, and the indices of the sections of a kind. -/
structure TabM (tb M nb N : Nat) (s : Nat → Sec) (idx : Nat → Nat) (w : World) : Prop where
  sec : ∀ i, i < M → SecAt w tb (i * 10) (s i)
  ix : ∀ j, j < N → w.cell? ⟨nb, j, none⟩ = some (.int .i32 (idx j : Int))
  bd : ∀ j, j < N → idx j < M
theorem TabM.kp {tb M nb N : Nat} {s : Nat → Sec} {idx : Nat → Nat} {w w' : World} (h : TabM tb M nb N s idx w) (k : Kp w w') : TabM tb M nb N s idx w' := ⟨fun i hi => (h.sec i hi).kp k, fun j hj => k.cell0 (h.ix j hj), h.bd⟩

theorem fld62 (n : Value) (p1 p2 p3 p4 p5 p6 p7 p8 : Value) (W : World) : (Instr.field 62 (.agg #[n, p1, p2, p3, p4, p5, p6, p7, p8]) 0).run Yba.prog W = .ok n W := by
  simp [Instr.field, Yba.underlying62, asAgg, part, Yba.isAgg3, Yba.sizeOf3]

theorem Yba.info59 : (Yba.prog.info? 59).map (fun i => (i.zero, i.size, i.bytes)) = some (some (.agg #[.int .u64 0, .int .u64 0]), 2, 16) := by kernel_rfl
theorem Yba.info21 : (Yba.prog.info? 21).map (fun i => (i.zero, i.size, i.bytes)) = some (some (.int .i32 0), 1, 4) := by kernel_rfl

/-- The tree's cells, one of them turned. -/
theorem arr_setP (g : TreeV) (c : Nat) (v : Value) (hc : c < 4) : g.arr.setIfInBounds (2 + c) v = TreeV.arr { g with P := fun i => if i = c then v else g.P i } := by
  match c, hc with
  | 0, _ => rfl
  | 1, _ => rfl
  | 2, _ => rfl
  | 3, _ => rfl
theorem arr_P (g : TreeV) (c : Nat) (hc : c < 4) : g.arr[2 + c]? = some (g.P c) := by
  match c, hc with
  | 0, _ => rfl
  | 1, _ => rfl
  | 2, _ => rfl
  | 3, _ => rfl

theorem cells2_new (w : World) (a b : Value) (t : TypeId) : ∀ j u, [a, b][j]? = some u → (w.alloc (.cells #[a, b] t)).cell? ((⟨w.heap.size, 0, none⟩ : Addr).add j) = some u := by
  intro j u hj
  match j, hj with
  | 0, hj => simp at hj; subst hj; simp [Addr.add]
  | 1, hj => simp at hj; subst hj; simp [Addr.add]
theorem set_other {w : World} {b k o : Nat} {x : Obj} {v : Value} (h : w.heap[k]? = some x) (hk : k ≠ b) : (w.setCell ⟨b, o, none⟩ v).heap[k]? = some x := (GrX.set (bl := b) w o v).block h hk

theorem tree_cells {w : World} {b : Nat} {g : TreeV} (h : w.heap[b]? = some (.cells g.arr 54 (0, 0))) : w.cell? ⟨b, 0, none⟩ = some (.int .u8 g.k) ∧ w.cell? ⟨b, 1, none⟩ = some (.int .i64 g.wd) ∧ w.cell? ⟨b, 2, none⟩ = some (g.P 0) ∧ w.cell? ⟨b, 3, none⟩ = some (g.P 1) ∧ w.cell? ⟨b, 4, none⟩ = some (g.P 2) ∧
    w.cell? ⟨b, 5, none⟩ = some (g.P 3) ∧ w.cell? ⟨b, 6, none⟩ = some g.S ∧ w.cell? ⟨b, 7, none⟩ = some g.A ∧ w.cell? ⟨b, 8, none⟩ = some g.B := by
  simp only [World.cell?, h]; exact ⟨rfl, rfl, rfl, rfl, rfl, rfl, rfl, rfl, rfl⟩
/-- A row of positions, with room for N. -/
def PosB (w : World) (b N : Nat) (S : List Int) : Prop :=
  ∃ C, w.heap[b]? = some (.cells C 59 (0, 0)) ∧ C.size = 2 * N ∧ ∀ t, t < S.length → C[t * 2]? = some (.int .u64 (S.getD t 0 / 18446744073709551616)) ∧ C[t * 2 + 1]? = some (.int .u64 (S.getD t 0 % 18446744073709551616))
theorem PosB.row {w : World} {b N : Nat} {S : List Int} (h : PosB w b N S) : PosRow w b S := by
  obtain ⟨C, h1, h2, h3⟩ := h
  intro i hi
  simp only [World.cell?, h1]
  exact h3 i hi
theorem PosB.block {w w' : World} {b N : Nat} {S : List Int} (h : PosB w b N S) (hb : ∀ o, w.heap[b]? = some o → w'.heap[b]? = some o) : PosB w' b N S := by
  obtain ⟨C, h1, h2, h3⟩ := h
  exact ⟨C, hb _ h1, h2, h3⟩
theorem PosB.step {X : World} {b N n : Nat} {S : List Int} {C : Array Value} {z : Int} (hn : S.length = n) (hb : X.heap[b]? = some (.cells ((C.setIfInBounds (n * 2) (.int .u64 (z / 18446744073709551616))).setIfInBounds (n * 2 + 1) (.int .u64 (z % 18446744073709551616))) 59 (0, 0))) (hs : C.size = 2 * N) (hl : n < N)
    (hC : ∀ t, t < S.length → C[t * 2]? = some (.int .u64 (S.getD t 0 / 18446744073709551616)) ∧ C[t * 2 + 1]? = some (.int .u64 (S.getD t 0 % 18446744073709551616))) : PosB X b N (S ++ [z]) := by
  refine ⟨_, hb, by simpa using hs, fun t ht => ?_⟩
  simp only [List.length_append, List.length_cons, List.length_nil] at ht
  by_cases e : t < S.length
  · rw [getD_append_l _ _ _ _ e]
    simp only [Array.getElem?_setIfInBounds]
    rw [if_neg (by omega), if_neg (by omega), if_neg (by omega), if_neg (by omega)]
    exact hC t e
  · obtain rfl : t = n := by omega
    have eg : (S ++ [z]).getD t 0 = z := by
      have := getD_append_r S [z] 0 0
      rw [Nat.add_zero, hn] at this
      rw [this]; rfl
    rw [eg]
    simp only [Array.getElem?_setIfInBounds, Array.size_setIfInBounds]
    rw [if_neg (by omega), if_pos trivial, if_pos (by omega), if_pos trivial, if_pos (by omega)]
    exact ⟨rfl, rfl⟩
/-- The positions c of the first j sections. -/
def posL (s : Nat → Sec) (idx : Nat → Nat) (k : Int) (c j : Nat) : List Int := (List.range j).map fun t => (placeL (s (idx t)) k).getD c 0
theorem posL_len (s : Nat → Sec) (idx : Nat → Nat) (k : Int) (c j : Nat) : (posL s idx k c j).length = j := by simp [posL]

theorem posL_succ (s : Nat → Sec) (idx : Nat → Nat) (k : Int) (c j : Nat) : posL s idx k c (j + 1) = posL s idx k c j ++ [(placeL (s (idx j)) k).getD c 0] := by simp [posL, List.range_succ]

def nilS : Value := .slice none 0 0
/-- Slices, all. -/
def SlP (P : Nat → Value) : Prop := ∀ i, ∃ a n c, P i = .slice a n c
theorem SlP.nil : SlP fun _ => nilS := fun _ => ⟨_, _, _, rfl⟩
theorem SlP.set {P : Nat → Value} (h : SlP P) (c : Nat) (a : Option Addr) (n m : Nat) : SlP fun i => if i = c then .slice a n m else P i := fun i => by
  by_cases e : i = c
  · exact ⟨a, n, m, if_pos e⟩
  · obtain ⟨x, y, z, hx⟩ := h i; exact ⟨x, y, z, (if_neg e).trans hx⟩
/-- A kind's tree, as data. -/
structure TreeD where
  k : Int
  wd : Nat
  nodes : Nat
  m : Nat
  P : Nat → Value
  pb : Nat → Nat
  sb : Nat
  gb : Nat
  bb : Nat
  S : Nat → List Int
  ord : List (Fin (m + 1))
  B : Array Value
def TreeD.v (D : TreeD) : TreeV := ⟨D.k, D.wd, D.P, .slice (some ⟨D.sb, 0, none⟩) (D.m + 1) (D.m + 1), .slice (some ⟨D.gb, 0, none⟩) ((D.m + 1) * D.wd) ((D.m + 1) * D.wd), .slice (some ⟨D.bb, 0, none⟩) (D.nodes * 2 * D.wd) (D.nodes * 2 * D.wd)⟩
structure TreeOK (s : Nat → Sec) (idx : Nat → Nat) (D : TreeD) : Prop where
  wd_ : D.wd = wdOf D.k
  sl : SlP D.P
  P_ : ∀ i, i < D.wd → D.P i = .slice (some ⟨D.pb i, 0, none⟩) (D.m + 1) (D.m + 1)
  perm : D.ord.Perm (List.finRange (D.m + 1))
  S_ : ∀ i, i < D.wd → (D.S i).Perm (posL s idx D.k i (D.m + 1))
  srt : ∀ i, i < D.wd → ∀ a b, a ≤ b → b < (D.S i).length → (D.S i).getD a 0 ≤ (D.S i).getD b 0
  nd : 0 < D.nodes ∧ D.nodes ≤ 200
  room : D.wd ≠ 0 → ∃ d, D.m + 1 ≤ 16 * 2 ^ d ∧ (0 + 2) * 2 ^ d ≤ D.nodes + 1
  tree : Tree D.wd (crdA D.S s idx D.k) D.B 0 D.ord
  m512 : D.m < 512
structure TreeIn (s : Nat → Sec) (idx : Nat → Nat) (D : TreeD) (w : World) : Prop where
  s_ : ∀ t, t < D.m + 1 → w.cell? ⟨D.sb, t, none⟩ = some (.int .i32 (idx (D.ord.getD t 0).val : Int))
  a_ : ∀ t, t < D.m + 1 → ∀ i, i < D.wd → w.cell? ⟨D.gb, t * D.wd + i, none⟩ = some (.int .i32 (crdA D.S s idx D.k (D.ord.getD t 0).val i))
  b_ : ∀ j v, D.B[j]? = some v → w.cell? ⟨D.bb, j, none⟩ = some v
  p_ : ∀ i, i < D.wd → PosRow w (D.pb i) (D.S i)
/-- The blocks of a tree. -/
def TreeD.has (D : TreeD) (b : Nat) : Prop := b = D.sb ∨ b = D.gb ∨ b = D.bb ∨ ∃ i, i < D.wd ∧ b = D.pb i
theorem TreeIn.keep {s : Nat → Sec} {idx : Nat → Nat} {D : TreeD} {w w' : World} (h : TreeIn s idx D w) (hk : ∀ b, D.has b → w'.heap[b]? = w.heap[b]?) : TreeIn s idx D w' := by
  have hc : ∀ (b o : Nat) (v : Value), D.has b → w.cell? ⟨b, o, none⟩ = some v → w'.cell? ⟨b, o, none⟩ = some v := fun b o v hb hv => by
    rw [World.cell?_of_block (w := w) (a := ⟨b, o, none⟩) (hk b hb)]; exact hv
  exact ⟨fun t ht => hc _ _ _ (.inl rfl) (h.s_ t ht), fun t ht i hi => hc _ _ _ (.inr (.inl rfl)) (h.a_ t ht i hi), fun j v hv => hc _ _ _ (.inr (.inr (.inl rfl))) (h.b_ j v hv),
    fun i hi t ht => ⟨hc _ _ _ (.inr (.inr (.inr ⟨i, hi, rfl⟩))) (h.p_ i hi t ht).1, hc _ _ _ (.inr (.inr (.inr ⟨i, hi, rfl⟩))) (h.p_ i hi t ht).2⟩⟩

def tree0 : TreeV := ⟨0, 0, fun _ => nilS, nilS, nilS, nilS⟩

set_option maxHeartbeats 8000000 in
set_option maxRecDepth 100000 in
theorem newTree_any (tb M nb N capN : Nat) (s : Nat → Sec) (idx : Nat → Nat) (k : Int) (v0 v1 v3 v4 : Value) (w : World) (hM : M ≤ 512) (hN : N ≤ 512) (hN0 : 0 < N) (hk : 0 ≤ k ∧ k < 16) (hok : ∀ i, i < M → (s i).ok) (hT : TabM tb M nb N s idx w) :
    Calls Yba.prog 8 #[.agg #[v0, v1, .slice (some ⟨tb, 0, none⟩) M M, v3, v4], .int .u8 k, .slice (some ⟨nb, 0, none⟩) N capN] w fun e w' => ∃ D : TreeD, e = .returned (.agg D.v.arr) ∧ D.k = k ∧ D.m + 1 = N ∧ TreeOK s idx D ∧ TreeIn s idx D w' ∧ (∀ b, D.has b → w.heap.size ≤ b ∧ b < w'.heap.size) ∧ Kp w w' := by
  have HT := hide hT
  have HOK := hide hok
  clear hT hok
  go_enter Yba.func8, Yba.ntmps8
  go_wp2_with fail
  obtain ⟨Wa, hWa⟩ : ∃ Wa, Wa = (w.alloc (.cells #[v0, v1, .slice (some ⟨tb, 0, none⟩) M M, v3, v4] 33)).alloc (.cells tree0.arr 54) := ⟨_, rfl⟩
  have ga : Gr w Wa := by rw [hWa]; exact ((Gr.refl _).alloc _).alloc _
  have b3 : Wa.cell? ⟨w.heap.size, 2, none⟩ = some (.slice (some ⟨tb, 0, none⟩) M M) := by rw [hWa]; simp
  have b6 : Wa.heap[w.heap.size + 1]? = some (.cells tree0.arr 54 (0, 0)) := by rw [hWa]; have := heap_alloc_new (w.alloc (.cells #[v0, v1, .slice (some ⟨tb, 0, none⟩) M M, v3, v4] 33)) (.cells tree0.arr 54); simpa using this
  have e0 : ((w.alloc (.cells #[v0, v1, .slice (some ⟨tb, 0, none⟩) M M, v3, v4] 33)).alloc (.cells #[.int .u8 0, .int .i64 0, .slice none 0 0, .slice none 0 0, .slice none 0 0, .slice none 0 0, .slice none 0 0, .slice none 0 0, .slice none 0 0] 54)) = Wa := hWa.symm
  rw [e0]
  clear e0 hWa
  have HGA := hide ga
  have HB6 := hide b6
  clear ga b6
  have hx0 := HT.out.bd 0 hN0
  have c0 := HGA.out.cell (HT.out.ix 0 hN0)
  have hx0I : (idx 0 : Int) < (M : Int) := by omega
  have hN0I : (0 : Int) < (N : Int) := by omega
  have hb3 : w.heap.size < Wa.heap.size := World.block_lt_of_cell? _ _ b3
  have hnb : nb < Wa.heap.size := World.block_lt_of_cell? _ _ c0
  have k3 := cell_grown hb3 b3
  have k0 := cell_grown hnb c0
  obtain ⟨p1, p2, p3, p4, p5, p6, p7, p8, hpf, _⟩ := plArr_form (placeL (s (idx 0)) k) (by rw [placeL_len]; exact wdOf_cases k)
  rw [placeL_len] at hpf
  have HPL : Hid (∀ W, SecAt W tb (idx 0 * 10) (s (idx 0)) → Calls Yba.prog 14 #[.pointer (some ⟨tb, idx 0 * 10, none⟩), .int .u8 k] W fun e w' => e = .returned (.agg #[.int .i64 (wdOf k), .int .u64 p1, .int .u64 p2, .int .u64 p3, .int .u64 p4, .int .u64 p5, .int .u64 p6, .int .u64 p7, .int .u64 p8]) ∧ ∃ q' os', w' = grow (W.drewN q') os') := fun W hW => by
    have := placeOf_any tb (idx 0 * 10) (s (idx 0)) k W hW (HOK.out _ hx0)
    rw [hpf] at this
    exact this
  have HSA := hide ((HT.out.sec _ hx0).gr HGA.out)
  clear hpf
  obtain ⟨wd, hwd⟩ : ∃ wd, wd = wdOf k := ⟨_, rfl⟩
  rw [← hwd] at HPL
  have HWD := hide hwd
  have hwc : wd = 0 ∨ wd = 2 ∨ wd = 4 := by rw [hwd]; exact wdOf_cases k
  clear hwd
  have hfld := fun W => fld62 (.int .i64 (wd : Int)) (.int .u64 p1) (.int .u64 p2) (.int .u64 p3) (.int .u64 p4) (.int .u64 p5) (.int .u64 p6) (.int .u64 p7) (.int .u64 p8) W
  go_wp2_with fail
  refine wp_region_quiet_grown (by kernel_rfl) (by kernel_rfl) ?_
  repeat (go_big_quiet_step ((go_at_call 14; refine Calls.grown_of (HPL.out _ (HSA.out.gr ⟨_, _, rfl⟩)))))
  refine wpQuiet_nil ?_
  intro _ hw'
  obtain ⟨⟨nq, osq⟩, hw''⟩ := hw'
  obtain ⟨Wb, hWb⟩ : ∃ Wb, Wb = grow (Wa.drewN nq) osq := ⟨_, rfl⟩
  have HGB : Hid (Gr w Wb) := HGA.out.trans ⟨_, _, hWb⟩
  have HB6b : Hid (Wb.heap[w.heap.size + 1]? = some (.cells tree0.arr 54 (0, 0))) := (show Gr Wa Wb from ⟨_, _, hWb⟩).block HB6.out
  have b3b : Wb.cell? ⟨w.heap.size, 2, none⟩ = some (.slice (some ⟨tb, 0, none⟩) M M) := (show Gr Wa Wb from ⟨_, _, hWb⟩).cell b3
  subst hw''
  rw [← hWb]
  clear hWb k3 k0 b3 c0 HPL HSA HB6 HGA
  go_wp2_with fail
  obtain ⟨bg, hbg⟩ : ∃ bg, bg = Wb.heap.size := ⟨_, rfl⟩
  obtain ⟨Wc, hWc⟩ : ∃ Wc, Wc = Wb.alloc (.cells (TreeV.arr ⟨k, wd, fun _ => nilS, nilS, nilS, nilS⟩) 54) := ⟨_, rfl⟩
  have e0 : Wb.alloc (.cells #[.int .u8 k, .int .i64 wd, .slice none 0 0, .slice none 0 0, .slice none 0 0, .slice none 0 0, .slice none 0 0, .slice none 0 0, .slice none 0 0] 54) = Wc := hWc.symm
  rw [e0, ← hbg]
  have HGC : Hid (Gr Wb Wc) := by show Gr _ _; rw [hWc]; exact (Gr.refl _).alloc _
  have HBG : Hid (Wc.heap[bg]? = some (.cells (TreeV.arr ⟨k, wd, fun _ => nilS, nilS, nilS, nilS⟩) 54 (0, 0))) := by show _ = _; rw [hWc, hbg]; exact heap_alloc_new _ _
  have hsc : Wc.heap.size = bg + 1 := by rw [hWc, hbg]; simp
  have hwb : w.heap.size + 2 ≤ bg := by have := (Array.getElem?_eq_some_iff.1 HB6b.out).1; omega
  have HSZ := hide hsc
  have HBGS := hide hbg
  have HB3 := hide b3b
  clear e0 hWc hbg b3b hsc
  obtain ⟨i1, hi, hz0, hz1, hz2⟩ := info_parts Yba.info59
  have hmk := fun w' => run_make (P := Yba.prog) w' 51 59 i1 _ Yba.underlying51 hi hz0 .i64 .i64 0 N (by omega) (by omega) (by rw [hz2]; omega) (by omega)
  go_loopw [38] (fun s38 wr => ∃ (c : Nat) (P : Nat → Value), c ≤ wd ∧ s38 = .int .i64 c ∧ wr.heap[bg]? = some (.cells (TreeV.arr ⟨k, wd, P, nilS, nilS, nilS⟩) 54 (0, 0)) ∧ (∀ i, i < c → P i = .slice (some ⟨bg + 1 + i, 0, none⟩) 0 N ∧ ∃ C, wr.heap[bg + 1 + i]? = some (.cells C 59 (0, 0)) ∧ C.size = 2 * N) ∧ wr.heap.size = bg + 1 + c ∧ GrX bg Wc wr ∧ SlP P) (fun s38 _ => wd - (intOf s38).toNat)
  case atStart => exact ⟨0, _, by omega, rfl, HBG.out, fun i hi => by omega, HSZ.out, GrX.of_gr (Gr.refl _), SlP.nil⟩
  case round =>
    obtain ⟨c, P, hc, rfl, hgb, hps, hsz, hgx, hsl⟩ := hrel
    have HSL := hide hsl
    clear hsl
    have HGB2 := hide hgb
    have HPS := hide hps
    have HSZ2 := hide hsz
    have HGX := hide hgx
    clear hgb hps hsz hgx
    by_cases hlt : c < wd
    · have hcI : (c : Int) < (wd : Int) := by omega
      have hc4 : (c : Int) < 4 := by omega
      have g1 : wr.cell? ⟨bg, 2 + c, none⟩ = some (P c) := by simp only [World.cell?, HGB2.out]; exact arr_P _ c (by omega)
      have g2 : wr.frozen? ⟨bg, 2 + c, none⟩ = false := by simp [World.frozen?, HGB2.out]
      have hbl : bg < wr.heap.size := by rw [HSZ2.out]; omega
      go_wp2_with fail
      refine ⟨⟨c + 1, fun i => if i = c then .slice (some ⟨wr.heap.size, 0, none⟩) 0 N else P i, by omega, by go_num, ?_, ?_, ?_, ?_, HSL.out.set _ _ _ _⟩, by simp [intOf]; omega⟩
      · have := alloc_block (set_block (o := 2 + c) HGB2.out (.slice (some ⟨wr.heap.size, 0, none⟩) 0 N)) (.cells (madeCells #[.int .u64 0, .int .u64 0] (N * 2)) 59)
        rw [arr_setP _ c _ (by omega)] at this
        exact this
      · intro i hi'
        by_cases e : i = c
        · subst e
          refine ⟨by dsimp only; rw [if_pos rfl, HSZ2.out], madeCells #[.int .u64 0, .int .u64 0] (N * 2), ?_, by rw [size_madeCells]; exact Nat.mul_comm _ _⟩
          have := heap_alloc_new (wr.setCell ⟨bg, 2 + i, none⟩ (.slice (some ⟨wr.heap.size, 0, none⟩) 0 N)) (.cells (madeCells #[.int .u64 0, .int .u64 0] (N * 2)) 59)
          rw [show (wr.setCell ⟨bg, 2 + i, none⟩ (.slice (some ⟨wr.heap.size, 0, none⟩) 0 N)).heap.size = bg + 1 + i by simp [HSZ2.out]] at this
          exact this
        · obtain ⟨h1, C, h2, h3⟩ := HPS.out i (by omega)
          exact ⟨by dsimp only; rw [if_neg e]; exact h1, C, alloc_block (set_other h2 (by omega)) _, h3⟩
      · simp [HSZ2.out]; omega
      · exact (HGX.out.trans (GrX.set _ _ _)).trans (GrX.of_gr ((Gr.refl _).alloc _))
    · obtain rfl : wd = c := by omega
      have HP2 : Hid (∀ i, i < wd → P i = .slice (some ⟨bg + 1 + i, 0, none⟩) (0 : Nat) N ∧ PosB wr (bg + 1 + i) N (posL s idx k i 0)) := fun i hi' => by
        obtain ⟨h1, C, h2, h3⟩ := HPS.out i hi'
        exact ⟨h1, C, h2, h3, fun t ht => by rw [posL_len] at ht; omega⟩
      have HKP : Hid (Kp Wb wr) := (Kp.refl Wb).gr HGC.out |>.x HGX.out (by rw [← HBGS.out]; exact Nat.le_refl _)
      obtain ⟨Wd, hWd⟩ : ∃ Wd, Wd = wr := ⟨_, rfl⟩
      go_wp2_with fail
      go_loopw [50] (fun s50 wr => ∃ (j : Nat) (P : Nat → Value), j ≤ N ∧ s50 = .int .i64 j ∧ wr.heap[bg]? = some (.cells (TreeV.arr ⟨k, wd, P, nilS, nilS, nilS⟩) 54 (0, 0)) ∧ (∀ i, i < wd → P i = .slice (some ⟨bg + 1 + i, 0, none⟩) j N ∧ PosB wr (bg + 1 + i) N (posL s idx k i j)) ∧ bg + 1 + wd ≤ wr.heap.size ∧ Kp Wb wr ∧ SlP P) (fun s50 _ => N - (intOf s50).toNat)
      case atStart => exact ⟨0, P, by omega, rfl, HGB2.out, HP2.out, by rw [HSZ2.out]; exact Nat.le_refl _, HKP.out, HSL.out⟩
      case round =>
        obtain ⟨j, P, hj, rfl, hgb, hps, hsz, hkp, hsl⟩ := hrel
        have HSL3 := hide hsl
        clear hsl
        have HGB3 := hide hgb
        have HPS3 := hide hps
        have HKP3 := hide hkp
        clear hgb hps hkp
        by_cases hlt : j < N
        · have hjI : (j : Int) < (N : Int) := by omega
          have hxj := HT.out.bd j hlt
          have HTk := hide (HT.out.kp ((Kp.refl w).gr HGB.out |>.trans HKP3.out))
          have c1 := HTk.out.ix j hlt
          have hxI : (idx j : Int) < (M : Int) := by omega
          have b3 := HKP3.out.cell0 HB3.out
          obtain ⟨q1, q2, q3, q4, q5, q6, q7, q8, hpf, hpc⟩ := plArr_form (placeL (s (idx j)) k) (by rw [placeL_len]; exact wdOf_cases k)
          have hpl := placeOf_any tb (idx j * 10) (s (idx j)) k wr (HTk.out.sec _ hxj) (HOK.out _ hxj)
          rw [hpf] at hpl hpc
          rw [placeL_len, ← HWD.out] at hpc hpl
          have HPC := hide hpc
          clear hpc hpf
          go_wp2_with fail
          refine hpl.mono ?_
          rintro _ We ⟨rfl, hge⟩
          go_wp2_with fail
          obtain ⟨lb, hlb⟩ : ∃ lb, lb = We.heap.size := ⟨_, rfl⟩
          obtain ⟨PL, hPL⟩ : ∃ PL : Array Value, PL = #[.int .i64 wd, .int .u64 q1, .int .u64 q2, .int .u64 q3, .int .u64 q4, .int .u64 q5, .int .u64 q6, .int .u64 q7, .int .u64 q8] := ⟨_, rfl⟩
          rw [← hPL] at HPC
          obtain ⟨Wf, hWf⟩ : ∃ Wf, Wf = We.alloc (.cells PL 62) := ⟨_, rfl⟩
          have e0 : We.alloc (.cells #[.int .i64 wd, .int .u64 q1, .int .u64 q2, .int .u64 q3, .int .u64 q4, .int .u64 q5, .int .u64 q6, .int .u64 q7, .int .u64 q8] 62) = Wf := by rw [hWf, hPL]
          rw [e0, ← hlb]
          have HLB : Hid (Wf.heap[lb]? = some (.cells PL 62 (0, 0))) := by show _ = _; rw [hWf, hlb]; exact heap_alloc_new _ _
          have HGF : Hid (Gr wr Wf) := by show Gr _ _; rw [hWf]; exact hge.alloc _
          have hlb2 : bg + 1 + wd ≤ lb := by rw [hlb]; exact Nat.le_trans hsz hge.size
          clear e0 hWf hPL hlb hge hpl b3 c1
          go_loopw [61] (fun s61 wr => ∃ (c : Nat) (P : Nat → Value), c ≤ wd ∧ s61 = .int .i64 c ∧ wr.heap[bg]? = some (.cells (TreeV.arr ⟨k, wd, P, nilS, nilS, nilS⟩) 54 (0, 0)) ∧ (∀ i, i < wd → P i = .slice (some ⟨bg + 1 + i, 0, none⟩) (if i < c then j + 1 else j) N ∧ PosB wr (bg + 1 + i) N (posL s idx k i (if i < c then j + 1 else j))) ∧ wr.heap[lb]? = some (.cells PL 62 (0, 0)) ∧ Kp Wb wr ∧ SlP P) (fun s61 _ => wd - (intOf s61).toNat)
          case atStart => exact ⟨0, P, by omega, rfl, HGF.out.block HGB3.out, fun i hi' => ⟨(HPS3.out i hi').1, (HPS3.out i hi').2.block fun o ho => HGF.out.block ho⟩, HLB.out, HKP3.out.gr HGF.out, HSL3.out⟩
          case round =>
            obtain ⟨c, P, hc, rfl, hgb, hps, hlbk, hkp, hsl⟩ := hrel
            have HSL4 := hide hsl
            clear hsl
            have HGB4 := hide hgb
            have HPS4 := hide hps
            have HKP4 := hide hkp
            have HLB4 := hide hlbk
            clear hgb hps hkp hlbk
            by_cases hcw : c < wd
            · have hcI : (c : Int) < (wd : Int) := by omega
              have hc4 : (c : Int) < 4 := by omega
              obtain ⟨hPc, C, hCb, hCs, hCc⟩ := HPS4.out c hcw
              rw [if_neg (by omega)] at hPc hCc
              have g1 : wr.cell? ⟨bg, 2 + c, none⟩ = some (.slice (some ⟨bg + 1 + c, 0, none⟩) j N) := by simp only [World.cell?, HGB4.out]; rw [arr_P _ c (by omega)]; exact congrArg some hPc
              have g2 : wr.frozen? ⟨bg, 2 + c, none⟩ = false := by simp [World.frozen?, HGB4.out]
              have HCB := hide hCb
              have HCC := hide hCc
              clear hPc hCb hCc
              obtain ⟨zz, hzz⟩ : ∃ zz, zz = (placeL (s (idx j)) k).getD c 0 := ⟨_, rfl⟩
              have z1 : wr.cell? ⟨lb, 1 + c * 2, none⟩ = some (.int .u64 (zz / 18446744073709551616)) := by simp only [World.cell?, HLB4.out]; rw [hzz]; exact (HPC.out c hcw).1
              have z2 : wr.cell? ⟨lb, 1 + c * 2 + 1, none⟩ = some (.int .u64 (zz % 18446744073709551616)) := by simp only [World.cell?, HLB4.out]; rw [hzz]; exact (HPC.out c hcw).2
              have HZZ := hide hzz
              clear hzz
              generalize hzh : zz / 18446744073709551616 = zh at *
              generalize hzl : zz % 18446744073709551616 = zl at *
              have hbgl : bg < wr.heap.size := (Array.getElem?_eq_some_iff.1 HGB4.out).1
              have hpbl : bg + 1 + c < wr.heap.size := (Array.getElem?_eq_some_iff.1 HCB.out).1
              have hsp : ∀ t, t < 2 → (wr.cell? ⟨bg + 1 + c, j * 2 + t, none⟩).isSome = true := fun t ht => by
                have : j * 2 + t < C.size := by omega
                simp [World.cell?, HCB.out, this]
              have hfr : ∀ t, wr.frozen? ⟨bg + 1 + c, t, none⟩ = false := fun t => by simp [World.frozen?, HCB.out]
              have HN : Hid (∀ t u, [Value.int .u64 zh, .int .u64 zl][t]? = some u → (wr.alloc (.cells #[.int .u64 zh, .int .u64 zl] 59)).drew.cell? ((⟨wr.heap.size, 0, none⟩ : Addr).add t) = some u) := fun t u hu => by have := cells2_new wr (.int .u64 zh) (.int .u64 zl) 59 t u hu; simpa using this
              have HSP : Hid (∀ t, t < [Value.int .u64 zh, .int .u64 zl].length → ((wr.alloc (.cells #[.int .u64 zh, .int .u64 zl] 59)).drew.cell? ⟨bg + 1 + c, 0 + j * 2 + t, none⟩).isSome = true ∧ (wr.alloc (.cells #[.int .u64 zh, .int .u64 zl] 59)).drew.frozen? ⟨bg + 1 + c, 0 + j * 2 + t, none⟩ = false) := fun t ht => by
                have h1 := hsp t (by simpa using ht)
                have h2 := hfr (j * 2 + t)
                rw [Nat.zero_add]
                have e1 : ((wr.alloc (.cells #[.int .u64 zh, .int .u64 zl] 59)).drew).heap[bg + 1 + c]? = wr.heap[bg + 1 + c]? := Below.heap_alloc _ _ _ hpbl
                rw [World.cell?_of_block (w := wr) (a := ⟨bg + 1 + c, j * 2 + t, none⟩) e1, World.frozen?_of_block (w := wr) (a := ⟨bg + 1 + c, j * 2 + t, none⟩) e1]
                exact ⟨h1, h2⟩
              clear hsp hfr
              have GX : GrX (bg + 1 + c) wr ((wr.alloc (.cells #[.int .u64 zh, .int .u64 zl] 59)).drew.setCells (bg + 1 + c) (j * 2) [.int .u64 zh, .int .u64 zl]) :=
                ((GrX.of_gr (((Gr.refl wr).alloc _).drew)).trans (GrX.set _ _ _)).trans (GrX.set _ _ _)
              have x1 := GX.cell g1 (by show bg ≠ bg + 1 + c; omega)
              have x2 : ((wr.alloc (.cells #[.int .u64 zh, .int .u64 zl] 59)).drew.setCells (bg + 1 + c) (j * 2) [.int .u64 zh, .int .u64 zl]).frozen? ⟨bg, 2 + c, none⟩ = false := by
                simp [World.frozen?, GX.block HGB4.out (by omega)]
              have HGX := hide GX
              clear GX
              have HFIN : Hid (∃ (c' : Nat) (P : Nat → Value), c' ≤ wd ∧ Value.int .i64 ((c : Int) + 1) = .int .i64 c' ∧ (((wr.alloc (.cells #[.int .u64 zh, .int .u64 zl] 59)).drew.setCells (bg + 1 + c) (j * 2) [.int .u64 zh, .int .u64 zl]).setCell ⟨bg, 2 + c, none⟩ (.slice (some ⟨bg + 1 + c, 0, none⟩) (j + 1) N)).heap[bg]? = some (.cells (TreeV.arr ⟨k, wd, P, nilS, nilS, nilS⟩) 54 (0, 0)) ∧
                  (∀ i, i < wd → P i = .slice (some ⟨bg + 1 + i, 0, none⟩) (if i < c' then j + 1 else j) N ∧ PosB (((wr.alloc (.cells #[.int .u64 zh, .int .u64 zl] 59)).drew.setCells (bg + 1 + c) (j * 2) [.int .u64 zh, .int .u64 zl]).setCell ⟨bg, 2 + c, none⟩ (.slice (some ⟨bg + 1 + c, 0, none⟩) (j + 1) N)) (bg + 1 + i) N (posL s idx k i (if i < c' then j + 1 else j))) ∧
                  (((wr.alloc (.cells #[.int .u64 zh, .int .u64 zl] 59)).drew.setCells (bg + 1 + c) (j * 2) [.int .u64 zh, .int .u64 zl]).setCell ⟨bg, 2 + c, none⟩ (.slice (some ⟨bg + 1 + c, 0, none⟩) (j + 1) N)).heap[lb]? = some (.cells PL 62 (0, 0)) ∧
                  Kp Wb (((wr.alloc (.cells #[.int .u64 zh, .int .u64 zl] 59)).drew.setCells (bg + 1 + c) (j * 2) [.int .u64 zh, .int .u64 zl]).setCell ⟨bg, 2 + c, none⟩ (.slice (some ⟨bg + 1 + c, 0, none⟩) (j + 1) N)) ∧ SlP P) := by
                refine ⟨c + 1, fun i => if i = c then .slice (some ⟨bg + 1 + c, 0, none⟩) (j + 1) N else P i, by omega, by go_num, ?_, fun i hi' => ?_, set_other (HGX.out.block HLB4.out (by omega)) (by omega), (HKP4.out.x HGX.out (by rw [← HBGS.out]; omega)).x (GrX.set (bl := bg) _ _ _) (by rw [← HBGS.out]; exact Nat.le_refl _), HSL4.out.set _ _ _ _⟩
                · have := set_block (o := 2 + c) (HGX.out.block HGB4.out (by omega)) (.slice (some ⟨bg + 1 + c, 0, none⟩) (j + 1) N)
                  rw [arr_setP _ c _ (by omega)] at this
                  exact this
                · by_cases e : i = c
                  · subst e
                    refine ⟨by dsimp only; rw [if_pos rfl, if_pos (by omega)], ?_⟩
                    rw [if_pos (by omega), posL_succ, ← HZZ.out]
                    refine PosB.step (posL_len _ _ _ _ _) (set_other (?_ : _ = _) (by omega)) hCs hlt HCC.out
                    rw [hzh, hzl]
                    exact set_block (set_block (alloc_block (o' := .cells #[.int .u64 zh, .int .u64 zl] 59) HCB.out) _) _
                  · obtain ⟨h1, h2⟩ := HPS4.out i hi'
                    have e2 : (if i < c + 1 then j + 1 else j) = if i < c then j + 1 else j := by
                      by_cases h : i < c
                      · rw [if_pos h, if_pos (by omega)]
                      · rw [if_neg h, if_neg (by omega)]
                    refine ⟨by dsimp only; rw [if_neg e, e2]; exact h1, ?_⟩
                    rw [e2]
                    exact h2.block fun o ho => set_other (HGX.out.block ho (by omega)) (by omega)
              go_wp2_with fail
              go_region_law (refine step_append_room rfl (.tmp 68) (.tmp 73) 51 rfl 59 i1 2 Yba.underlying51 hi hz1 (bg + 1 + c) 0 j N rfl ⟨wr.heap.size, 0, none⟩ 1 1 [.int .u64 zh, .int .u64 zl] rfl rfl HN.out (by intro u hu; simp at hu; rcases hu with rfl | rfl <;> rfl) (by omega) HSP.out ?_)
              all_goals go_wp2_with fail
              all_goals exact ⟨HFIN.out, by simp [intOf]; omega⟩
            · obtain rfl : wd = c := by omega
              go_wp2_with fail
              refine ⟨⟨j + 1, P, by omega, by go_num, HGB4.out, fun i hi' => ?_, ?_, HKP4.out, HSL4.out⟩, by simp [intOf]; omega⟩
              · have := HPS4.out i hi'
                rw [if_pos hi'] at this
                exact this
              · have := (Array.getElem?_eq_some_iff.1 HLB4.out).1; omega
        · obtain rfl : N = j := by omega
          go_wp2_with fail
          go_loopw [80] (fun s80 wr => ∃ (c : Nat) (S : Nat → List Int), c ≤ wd ∧ s80 = .int .i64 c ∧ wr.heap[bg]? = some (.cells (TreeV.arr ⟨k, wd, P, nilS, nilS, nilS⟩) 54 (0, 0)) ∧ (∀ i, i < c → (S i).Perm (posL s idx k i N) ∧ (∀ a b, a ≤ b → b < (S i).length → (S i).getD a 0 ≤ (S i).getD b 0) ∧ PosRow wr (bg + 1 + i) (S i)) ∧ (∀ i, c ≤ i → i < wd → PosB wr (bg + 1 + i) N (posL s idx k i N)) ∧ bg + 1 + wd ≤ wr.heap.size ∧ Kp Wb wr) (fun s80 _ => wd - (intOf s80).toNat)
          case atStart => exact ⟨0, fun _ => [], by omega, rfl, HGB3.out, fun i hi' => by omega, fun i _ hi' => (HPS3.out i hi').2, hsz, HKP3.out⟩
          case round =>
            obtain ⟨c, S, hc, rfl, hgb, hs1, hs2, hsz, hkp⟩ := hrel
            have HGB5 := hide hgb
            have HS1 := hide hs1
            have HS2 := hide hs2
            have HKP5 := hide hkp
            clear hgb hs1 hs2 hkp
            by_cases hcw : c < wd
            · have hcI : (c : Int) < (wd : Int) := by omega
              have hc4 : (c : Int) < 4 := by omega
              have g1 : wr.cell? ⟨bg, 2 + c, none⟩ = some (.slice (some ⟨bg + 1 + c, 0, none⟩) N N) := by simp only [World.cell?, HGB5.out]; rw [arr_P _ c (by omega)]; exact congrArg some (HPS3.out c hcw).1
              have hPB := HS2.out c (Nat.le_refl _) hcw
              obtain ⟨C, hCb, hCs, hCc⟩ := hPB
              have hsrt := sort16 (bg + 1 + c) N (posL s idx k c N) C wr (HS2.out c (Nat.le_refl _) hcw).row hCb (by rw [posL_len]; exact hN)
              rw [posL_len] at hsrt
              clear hCb hCs hCc
              go_wp2_with fail
              refine hsrt.mono ?_
              rintro _ Wg ⟨rfl, S', hp', hm', hr', hg'⟩
              have HFIN : Hid (∃ (c' : Nat) (S : Nat → List Int), c' ≤ wd ∧ Value.int .i64 ((c : Int) + 1) = .int .i64 c' ∧ Wg.heap[bg]? = some (.cells (TreeV.arr ⟨k, wd, P, nilS, nilS, nilS⟩) 54 (0, 0)) ∧ (∀ i, i < c' → (S i).Perm (posL s idx k i N) ∧ (∀ a b, a ≤ b → b < (S i).length → (S i).getD a 0 ≤ (S i).getD b 0) ∧ PosRow Wg (bg + 1 + i) (S i)) ∧ (∀ i, c' ≤ i → i < wd → PosB Wg (bg + 1 + i) N (posL s idx k i N)) ∧ bg + 1 + wd ≤ Wg.heap.size ∧ Kp Wb Wg) := by
                refine ⟨c + 1, fun i => if i = c then S' else S i, by omega, by go_num, hg'.block HGB5.out (by omega), fun i hi' => ?_, fun i h1 h2 => (HS2.out i (by omega) h2).block fun o ho => hg'.block ho (by omega), Nat.le_trans hsz hg'.gb.size, HKP5.out.x hg' (by rw [← HBGS.out]; omega)⟩
                by_cases e : i = c
                · subst e
                  dsimp only
                  rw [if_pos rfl]
                  exact ⟨hp', hm', hr'⟩
                · obtain ⟨h1, h2, h3⟩ := HS1.out i (by omega)
                  dsimp only
                  rw [if_neg e]
                  exact ⟨h1, h2, h3.grx hg' (by omega)⟩
              clear hp' hm' hr' hg' hsrt
              go_wp2_with fail
              exact ⟨HFIN.out, by simp [intOf]; omega⟩
            · obtain rfl : wd = c := by omega
              obtain ⟨T, hTe⟩ : ∃ T, T = N * wd := ⟨_, rfl⟩
              have hT9 : T ≤ 2048 := by rw [hTe]; exact Nat.le_trans (Nat.mul_le_mul hN (show wd ≤ 4 by omega)) (by omega)
              have mT : (N : Int) * (wd : Int) = (T : Int) := by rw [hTe]; simp
              have wr_ : ∀ n : Nat, n ≤ 5000 → IntKind.i64.wrap (n : Int) = n := fun n hn => by simp [IntKind.wrap, IntKind.bits, IntKind.signed]; omega
              have HWR := hide wr_
              have wT := wr_ T (by omega)
              have wT2 : IntKind.i64.wrap ((N : Int) * (wd : Int)) = T := by rw [mT]; exact wT
              have HTe := hide hTe
              clear hTe wr_
              obtain ⟨i2, hi2, hz20, hz21, hz22⟩ := info_parts Yba.info21
              have hmk2 := fun w' => run_make (P := Yba.prog) w' 44 21 i2 _ Yba.underlying44 hi2 hz20 .i64 .i64 T T (by omega) (by omega) (by rw [hz22]; omega) (by omega)
              go_wp2_with fail
              obtain ⟨ab, hab⟩ : ∃ ab, ab = wr.heap.size := ⟨_, rfl⟩
              obtain ⟨Wh, hWh⟩ : ∃ Wh, Wh = wr.alloc (.cells (madeCells #[.int .i32 0] T) 21) := ⟨_, rfl⟩
              rw [← hWh, ← hab]
              have HAB : Hid (Wh.heap[ab]? = some (.cells (madeCells #[.int .i32 0] T) 21 (0, 0))) := by show _ = _; rw [hWh, hab]; exact heap_alloc_new _ _
              have HGH : Hid (Gr wr Wh) := by show Gr _ _; rw [hWh]; exact (Gr.refl _).alloc _
              have hab2 : bg + 1 + wd ≤ ab := by rw [hab]; exact hsz
              clear hWh hab hmk2
              go_loopw [96] (fun s96 wr => ∃ (j : Nat) (A : Array Value), j ≤ N ∧ s96 = .int .i64 j ∧ wr.heap[bg]? = some (.cells (TreeV.arr ⟨k, wd, P, nilS, nilS, nilS⟩) 54 (0, 0)) ∧ (∀ i, i < wd → PosRow wr (bg + 1 + i) (S i)) ∧ wr.heap[ab]? = some (.cells A 21 (0, 0)) ∧ A.size = T ∧ AtC wd (crdA S s idx k) j A ∧ Kp Wb wr) (fun s96 _ => N - (intOf s96).toNat)
              case atStart => exact ⟨0, _, by omega, rfl, HGH.out.block HGB5.out, fun i hi' => (HS1.out i hi').2.2.gr HGH.out, HAB.out, by rw [size_madeCells], fun t ht => by omega, HKP5.out.gr HGH.out⟩
              case round =>
                obtain ⟨j, A, hj, rfl, hgb, hps, ha1, ha2, ha3, hkp⟩ := hrel
                have HGB6 := hide hgb
                have HPS6 := hide hps
                have HA1 := hide ha1
                have HA3 := hide ha3
                have HKP6 := hide hkp
                clear hgb hps ha1 ha3 hkp
                by_cases hlt : j < N
                · have hjI : (j : Int) < (N : Int) := by omega
                  have hxj := HT.out.bd j hlt
                  have HTk := hide (HT.out.kp ((Kp.refl w).gr HGB.out |>.trans HKP6.out))
                  have c1 := HTk.out.ix j hlt
                  have hxI : (idx j : Int) < (M : Int) := by omega
                  have b3 := HKP6.out.cell0 HB3.out
                  obtain ⟨q1, q2, q3, q4, q5, q6, q7, q8, hpf, hpc⟩ := plArr_form (placeL (s (idx j)) k) (by rw [placeL_len]; exact wdOf_cases k)
                  have hpl := placeOf_any tb (idx j * 10) (s (idx j)) k wr (HTk.out.sec _ hxj) (HOK.out _ hxj)
                  rw [hpf] at hpl hpc
                  rw [placeL_len, ← HWD.out] at hpc hpl
                  have HPC := hide hpc
                  clear hpc hpf
                  go_wp2_with fail
                  refine hpl.mono ?_
                  rintro _ We ⟨rfl, hge⟩
                  obtain ⟨pj, hpj⟩ : ∃ pj, pj = j * wd := ⟨_, rfl⟩
                  have hpT : pj + wd ≤ T := by
                    have := Nat.mul_le_mul_right wd (show j + 1 ≤ N by omega)
                    rw [Nat.add_mul, Nat.one_mul, ← hpj, ← HTe.out] at this
                    exact this
                  have mj : (j : Int) * (wd : Int) = (pj : Int) := by rw [hpj]; simp
                  have mj2 : ((j : Int) + 1) * (wd : Int) = (pj : Int) + (wd : Int) := by rw [Int.add_mul, mj]; omega
                  have w1 := HWR.out pj (by omega)
                  have w2 : IntKind.i64.wrap ((j : Int) * (wd : Int)) = pj := by rw [mj]; exact w1
                  have w3 : IntKind.i64.wrap (((j : Int) + 1) * (wd : Int)) = (pj : Int) + (wd : Int) := by rw [mj2]; exact_mod_cast HWR.out (pj + wd) (by omega)
                  have w4 : IntKind.i64.wrap ((j : Int) + 1) = (j : Int) + 1 := by exact_mod_cast HWR.out (j + 1) (by omega)
                  have u1 : (0 : Int) ≤ (pj : Int) := by omega
                  have u2 : (pj : Int) + (wd : Int) ≤ (T : Int) := by omega
                  have u3 : (pj : Int) ≤ (pj : Int) + (wd : Int) := by omega
                  have hcw : (pj + wd) - pj = wd := by omega
                  obtain ⟨sa, hsa⟩ : ∃ sa, (if T = pj then some (⟨ab, 0, none⟩ : Addr) else some ⟨ab, pj, none⟩) = sa := ⟨_, rfl⟩
                  have HSA : Hid (0 < wd → sa = some ⟨ab, pj, none⟩) := fun h => by rw [← hsa, if_neg (by omega)]
                  have HPJ := hide hpj
                  have HGE := hide hge
                  clear hpj hge hpl c1 b3
                  go_wp2_with fail
                  obtain ⟨lb, hlb⟩ : ∃ lb, lb = We.heap.size := ⟨_, rfl⟩
                  obtain ⟨PL, hPL⟩ : ∃ PL : Array Value, PL = #[.int .i64 wd, .int .u64 q1, .int .u64 q2, .int .u64 q3, .int .u64 q4, .int .u64 q5, .int .u64 q6, .int .u64 q7, .int .u64 q8] := ⟨_, rfl⟩
                  rw [← hPL] at HPC
                  obtain ⟨Wf, hWf⟩ : ∃ Wf, Wf = We.alloc (.cells PL 62) := ⟨_, rfl⟩
                  have e0 : We.alloc (.cells #[.int .i64 wd, .int .u64 q1, .int .u64 q2, .int .u64 q3, .int .u64 q4, .int .u64 q5, .int .u64 q6, .int .u64 q7, .int .u64 q8] 62) = Wf := by rw [hWf, hPL]
                  rw [e0, ← hlb]
                  have HLB : Hid (Wf.heap[lb]? = some (.cells PL 62 (0, 0))) := by show _ = _; rw [hWf, hlb]; exact heap_alloc_new _ _
                  have HGF : Hid (Gr wr Wf) := by show Gr _ _; rw [hWf]; exact HGE.out.alloc _
                  have hlb2 : ab < lb := by rw [hlb]; exact (Array.getElem?_eq_some_iff.1 (HGE.out.block HA1.out)).1
                  clear e0 hWf hPL hlb hsa
                  have hco := coord_any bg 0 lb ab pj wd (T - pj) N (fun i => bg + 1 + i) (fun _ => N) S (fun i => (placeL (s (idx j)) k).getD i 0) A Wf (by omega) hN
                    (fun i hi' => by
                      have h1 := HGF.out.block HGB6.out
                      simp only [World.cell?, h1, Nat.zero_add]
                      rw [arr_P _ i (by omega)]; exact congrArg some (HPS3.out i hi').1)
                    (fun i hi' => by rw [(HS1.out i hi').1.length_eq, posL_len]) (fun i hi' => (HPS6.out i hi').gr HGF.out) (fun i hi' => (HS1.out i hi').2.1)
                    (fun i hi' => by simp only [World.cell?, HLB.out]; exact HPC.out i hi') (HGF.out.block HA1.out) (by omega) (by omega) (by omega) (fun i hi' => by show bg + 1 + i ≠ ab; omega) sa HSA.out
                  refine hco.mono ?_
                  rintro _ Wg ⟨rfl, ⟨A', hA1, hA2⟩, hG⟩
                  have HFIN : Hid (∃ (j' : Nat) (A : Array Value), j' ≤ N ∧ Value.int .i64 ((j : Int) + 1) = .int .i64 j' ∧ Wg.heap[bg]? = some (.cells (TreeV.arr ⟨k, wd, P, nilS, nilS, nilS⟩) 54 (0, 0)) ∧ (∀ i, i < wd → PosRow Wg (bg + 1 + i) (S i)) ∧ Wg.heap[ab]? = some (.cells A 21 (0, 0)) ∧ A.size = T ∧ AtC wd (crdA S s idx k) j' A ∧ Kp Wb Wg) := by
                    refine ⟨j + 1, A', by omega, by go_num, hG.block (HGF.out.block HGB6.out) (by omega), fun i hi' => ((HPS6.out i hi').gr HGF.out).grx hG (by omega), hA1, by rw [hA2.1, ha2], HA3.out.step (by rw [← HPJ.out]; exact hA2) (fun i _ => rfl), (HKP6.out.gr HGF.out).x hG (by rw [← HBGS.out]; omega)⟩
                  clear hA1 hA2 hG hco
                  go_wp2_with fail
                  exact ⟨HFIN.out, by simp [intOf]; omega⟩
                · obtain rfl : N = j := by omega
                  go_wp2_with fail
                  go_loopw [19, 20] (fun s19 s20 wx => ∃ nd n E : Nat, s19 = .int .i64 nd ∧ s20 = .int .i64 n ∧ (∃ d, E = 2 ^ d) ∧ nd + 1 = 2 * E ∧ N ≤ n * E ∧ 0 < n ∧ n ≤ N ∧ E * (n - 1) ≤ 511 ∧ E ≤ 64 ∧ wx = wr) (fun _ s20 _ => (intOf s20).toNat)
                  case atStart => exact ⟨1, N, 1, rfl, rfl, ⟨0, rfl⟩, rfl, by omega, hN0, Nat.le_refl _, by omega, by omega, rfl⟩
                  case round =>
                    obtain ⟨nd, n, E, rfl, rfl, hEd, hE1, hE2, hn0, hnN, hE3, hE4, rfl⟩ := hrel
                    have HED := hide hEd
                    have HE2 := hide hE2
                    have HE3 := hide hE3
                    clear hEd hE2 hE3
                    go_upto_region 32 with fail
                    go_cut [125] from 120 to 131 (fun s125 wx => s125 = .bool (decide (0 < wd ∧ 16 < n)) ∧ wx = wr)
                    case first =>
                      by_cases h1 : 0 < wd
                      · have g1 : decide ((0 : Int) < (wd : Int)) = true := by simp; omega
                        have g3 : (0 : Int) < (wd : Int) := by omega
                        by_cases h2 : 16 < n
                        · have g2 : decide ((16 : Int) < (n : Int)) = true := by simp; omega
                          have g4 : (16 : Int) < (n : Int) := by omega
                          go_wp2_with fail
                          all_goals (go_meet; exact ⟨by simp [h1, h2], rfl⟩)
                        · have g2 : decide ((16 : Int) < (n : Int)) = false := by simp; omega
                          have g4 : ¬ (16 : Int) < (n : Int) := by omega
                          go_wp2_with fail
                          all_goals (go_meet; exact ⟨by simp [h1, h2], rfl⟩)
                      · have g1 : decide ((0 : Int) < (wd : Int)) = false := by simp; omega
                        have g3 : ¬ (0 : Int) < (wd : Int) := by omega
                        go_wp2_with fail
                        all_goals (go_meet; exact ⟨by simp [h1], rfl⟩)
                    case rest =>
                    obtain ⟨rfl, hwc⟩ := hcut
                    obtain rfl := hwc.symm
                    by_cases hgo : 0 < wd ∧ 16 < n
                    · have hgt : decide (0 < wd ∧ 16 < n) = true := by simp [hgo]
                      have hE5 : E * 16 ≤ 511 := Nat.le_trans (Nat.mul_le_mul_left E (by omega)) HE3.out
                      go_wp2_with fail
                      go_roundw
                      case rel =>
                        refine ⟨2 * nd + 1, (n + 1) / 2, 2 * E, by go_num, by go_num, ?_, by omega, ?_, by omega, by omega, ?_, by omega, by simp⟩
                        · obtain ⟨d, hd⟩ := HED.out
                          exact ⟨d + 1, by rw [hd, Nat.pow_succ, Nat.mul_comm]⟩
                        · have h1 : n * E ≤ (n + 1) / 2 * 2 * E := Nat.mul_le_mul_right E (by omega)
                          rw [Nat.mul_assoc] at h1
                          exact Nat.le_trans HE2.out h1
                        · have h1 : E * (2 * ((n + 1) / 2 - 1)) ≤ E * (n - 1) := Nat.mul_le_mul_left E (by omega)
                          rw [← Nat.mul_assoc, Nat.mul_comm E 2] at h1
                          exact Nat.le_trans h1 HE3.out
                      case measure => simp [intOf]; omega
                    · have hgf : decide (0 < wd ∧ 16 < n) = false := by simp; omega
                      obtain ⟨Q, hQe⟩ : ∃ Q, Q = nd * 2 * wd := ⟨_, rfl⟩
                      have hnd : nd ≤ 127 := by omega
                      have hQ9 : Q ≤ 1016 := by rw [hQe]; exact Nat.le_trans (Nat.mul_le_mul (show nd * 2 ≤ 254 by omega) (show wd ≤ 4 by omega)) (by omega)
                      have mQ : (nd : Int) * 2 * (wd : Int) = (Q : Int) := by rw [hQe]; simp
                      have wQ := HWR.out Q (by omega)
                      have wQ2 : IntKind.i64.wrap ((nd : Int) * 2 * (wd : Int)) = Q := by rw [mQ]; exact wQ
                      have wQ3 : IntKind.i64.wrap ((nd : Int) * 2) = (nd : Int) * 2 := by exact_mod_cast HWR.out (nd * 2) (by omega)
                      have HQe := hide hQe
                      clear hQe
                      have hmk3 := fun w' => run_make (P := Yba.prog) w' 44 21 i2 _ Yba.underlying44 hi2 hz20 .i64 .i64 Q Q (by omega) (by omega) (by rw [hz22]; omega) (by omega)
                      have hmk4 := fun w' => run_make (P := Yba.prog) w' 44 21 i2 _ Yba.underlying44 hi2 hz20 .i64 .i64 N N (by omega) (by omega) (by rw [hz22]; omega) (by omega)
                      have g1 : wr.cell? ⟨bg, 8, none⟩ = some nilS := by simp only [World.cell?, HGB6.out]; rfl
                      have g2 : wr.frozen? ⟨bg, 8, none⟩ = false := by simp [World.frozen?, HGB6.out]
                      have hbl : bg < wr.heap.size := (Array.getElem?_eq_some_iff.1 HGB6.out).1
                      go_wp2_with fail
                      obtain ⟨bb, hbb⟩ : ∃ bb, bb = wr.heap.size := ⟨_, rfl⟩
                      obtain ⟨Wi, hWi⟩ : ∃ Wi, Wi = ((wr.setCell ⟨bg, 8, none⟩ (.slice (some ⟨bb, 0, none⟩) Q Q)).alloc (.cells (madeCells #[.int .i32 0] Q) 21)).alloc (.cells (madeCells #[.int .i32 0] N) 21) := ⟨_, rfl⟩
                      rw [← hbb, ← hWi]
                      have HGI : Hid (GrX bg wr Wi) := by show GrX _ _ _; rw [hWi]; exact ((GrX.set _ _ _).trans (GrX.of_gr ((Gr.refl _).alloc _))).trans (GrX.of_gr ((Gr.refl _).alloc _))
                      have HBGi : Hid (Wi.heap[bg]? = some (.cells (TreeV.arr ⟨k, wd, P, nilS, nilS, .slice (some ⟨bb, 0, none⟩) Q Q⟩) 54 (0, 0))) := by
                        show _ = _; rw [hWi]; exact alloc_block (alloc_block (set_block (o := 8) HGB6.out (.slice (some ⟨bb, 0, none⟩) Q Q)) _) _
                      have HBBi : Hid (Wi.heap[bb]? = some (.cells (madeCells #[.int .i32 0] Q) 21 (0, 0))) := by
                        show _ = _; rw [hWi]; refine alloc_block ?_ _
                        have := heap_alloc_new (wr.setCell ⟨bg, 8, none⟩ (.slice (some ⟨bb, 0, none⟩) Q Q)) (.cells (madeCells #[.int .i32 0] Q) 21)
                        rw [show (wr.setCell ⟨bg, 8, none⟩ (.slice (some ⟨bb, 0, none⟩) Q Q)).heap.size = bb by simp [hbb]] at this
                        exact this
                      have HOBi : Hid (Wi.heap[bb + 1]? = some (.cells (madeCells #[.int .i32 0] N) 21 (0, 0))) := by
                        show _ = _; rw [hWi]
                        have := heap_alloc_new ((wr.setCell ⟨bg, 8, none⟩ (.slice (some ⟨bb, 0, none⟩) Q Q)).alloc (.cells (madeCells #[.int .i32 0] Q) 21)) (.cells (madeCells #[.int .i32 0] N) 21)
                        rw [show ((wr.setCell ⟨bg, 8, none⟩ (.slice (some ⟨bb, 0, none⟩) Q Q)).alloc (.cells (madeCells #[.int .i32 0] Q) 21)).heap.size = bb + 1 by simp [hbb]] at this
                        exact this
                      have habl : ab < bb := by rw [hbb]; exact (Array.getElem?_eq_some_iff.1 HA1.out).1
                      clear hWi hmk3 hmk4 g1 g2 hbl hbb
                      go_loopw [143] (fun s143 wx => ∃ (j : Nat) (C : Array Value), j ≤ N ∧ s143 = .int .i64 j ∧ wx.heap[bb + 1]? = some (.cells C 21 (0, 0)) ∧ C.size = N ∧ (∀ t, t < j → C[t]? = some (.int .i32 t)) ∧ GrX (bb + 1) Wi wx) (fun s143 _ => N - (intOf s143).toNat)
                      case atStart => exact ⟨0, _, by omega, rfl, HOBi.out, by rw [size_madeCells], fun t ht => by omega, GrX.of_gr (Gr.refl _)⟩
                      case round =>
                        obtain ⟨j, C, hj, rfl, hC1, hC2, hC3, hgx⟩ := hrel
                        have HC1 := hide hC1
                        have HC3 := hide hC3
                        have HGJ := hide hgx
                        clear hC1 hC3 hgx
                        by_cases hlt : j < N
                        · have hjI : (j : Int) < (N : Int) := by omega --KEEP
                          obtain ⟨v, hv⟩ : ∃ v, C[j]? = some v := ⟨_, Array.getElem?_eq_getElem (by omega)⟩
                          have g1 : wr.cell? ⟨bb + 1, j, none⟩ = some v := by simp only [World.cell?, HC1.out]; exact hv
                          have g2 : wr.frozen? ⟨bb + 1, j, none⟩ = false := by simp [World.frozen?, HC1.out]
                          have g3 : IntKind.i32.wrap (j : Int) = j := by simp [IntKind.wrap, IntKind.bits, IntKind.signed]; omega
                          go_wp2_with fail
                          refine ⟨⟨j + 1, C.setIfInBounds j (.int .i32 j), by omega, by go_num, set_block HC1.out _, by simpa using hC2, fun t ht => ?_, HGJ.out.trans (GrX.set _ _ _)⟩, by simp [intOf]; omega⟩
                          rw [Array.getElem?_setIfInBounds]
                          by_cases e : j = t
                          · subst e; rw [if_pos rfl, if_pos (by omega)]
                          · rw [if_neg e]; exact HC3.out t (by omega)
                        · obtain rfl : N = j := by omega
                          go_wp2_with fail
                          obtain ⟨m, hm⟩ : ∃ m, m + 1 = N := ⟨N - 1, by omega⟩
                          have HM1 := hide hm
                          have eT : (m + 1) * wd = T := by rw [hm]; exact HTe.out.symm
                          have HKJ : Hid (Kp Wb wr) := ((HKP6.out.x HGI.out (by rw [← HBGS.out]; exact Nat.le_refl _)).x HGJ.out (by rw [← HBGS.out]; omega))
                          have HBGj : Hid (wr.heap[bg]? = some (.cells (TreeV.arr ⟨k, wd, P, nilS, nilS, .slice (some ⟨bb, 0, none⟩) Q Q⟩) 54 (0, 0))) := HGJ.out.block HBGi.out (by omega)
                          have HABj : Hid (wr.heap[ab]? = some (.cells A 21 (0, 0))) := HGJ.out.block (HGI.out.block HA1.out (by omega)) (by omega)
                          have HPSj : Hid (∀ i, i < wd → PosRow wr (bg + 1 + i) (S i)) := fun i hi' => ((HPS6.out i hi').grx HGI.out (by omega)).grx HGJ.out (by omega)
                          have hSp : SpM bg ab bb wd m nd (crdA S s idx k) wr := ⟨by simp only [World.cell?, HBGj.out]; rfl, by simp only [World.cell?, HBGj.out]; rw [← HQe.out]; rfl, fun j i hj hi' => by simp only [World.cell?, HABj.out]; exact HA3.out j (by omega) i hi'⟩
                          have hspl := split_any bg ab bb (bb + 1) wd m nd T (crdA S s idx k) (by omega) (by rw [eT]; exact Nat.le_refl _) (by omega) (by omega) (by omega) (by omega) (by omega) (by omega) (by omega) N (List.finRange (m + 1)) (by simp; exact hm) 0 N 0 0 C (madeCells #[.int .i32 0] Q) wr (Nat.le_refl _) (by omega) (by omega) (by omega) (by omega) (fun _ => rfl)
                            (fun hw0 => by
                              obtain ⟨d, hd⟩ := HED.out
                              have h16 : n ≤ 16 := by omega
                              refine ⟨d, ?_, ?_⟩
                              · rw [← hd]; exact Nat.le_trans HE2.out (Nat.mul_le_mul_right E h16)
                              · rw [← hd]; omega)
                            hSp HC1.out (fun t ht => by
                              rw [List.length_finRange] at ht
                              rw [Nat.zero_add, HC3.out t (by omega), List.getD_eq_getElem?_getD, List.getElem?_eq_getElem (by simpa using ht)]
                              simp) (HGJ.out.block HBBi.out (by omega)) (by rw [size_madeCells]; exact HQe.out)
                          rw [eT] at hspl
                          refine hspl.mono ?_
                          rintro _ Wk ⟨rfl, ord, C', B', hperm, hC1', hC2', hC3', -, hB1', hB2', hTr, hGY⟩
                          rw [List.length_finRange] at hC3'
                          have HPERM := hide hperm
                          have HTR := hide hTr
                          have hlo : ord.length = N := by rw [hperm.length_eq]; simp; exact hm
                          have HKk : Hid (Kp Wb Wk) := HKJ.out.y hGY (by rw [← HBGS.out]; omega) (by rw [← HBGS.out]; omega)
                          have yb : ∀ {q : Nat} {o : Obj}, wr.heap[q]? = some o → q ≠ bb + 1 → q ≠ bb → Wk.heap[q]? = some o := fun {q o} hv n1 n2 => (hGY.block q (Array.getElem?_eq_some_iff.1 hv).1 n1 n2).trans hv
                          have HBGk : Hid (Wk.heap[bg]? = some (.cells (TreeV.arr ⟨k, wd, P, nilS, nilS, .slice (some ⟨bb, 0, none⟩) Q Q⟩) 54 (0, 0))) := yb HBGj.out (by omega) (by omega)
                          have HABk : Hid (Wk.heap[ab]? = some (.cells A 21 (0, 0))) := yb HABj.out (by omega) (by omega)
                          have HPSk : Hid (∀ i, i < wd → PosRow Wk (bg + 1 + i) (S i)) := fun i hi' t ht => ⟨hGY.cell (HPSj.out i hi' t ht).1 (by show bg + 1 + i ≠ _; omega) (by show bg + 1 + i ≠ _; omega), hGY.cell (HPSj.out i hi' t ht).2 (by show bg + 1 + i ≠ _; omega) (by show bg + 1 + i ≠ _; omega)⟩
                          have HOBk : Hid (Wk.heap[bb + 1]? = some (.cells C' 21 (0, 0))) := hC1'
                          have HOCk : Hid (∀ t, t < N → C'[t]? = some (.int .i32 ((ord.getD t 0).val : Int))) := fun t ht => by have := hC3' t (by omega); rw [Nat.zero_add] at this; exact this
                          have HBBk : Hid (Wk.heap[bb]? = some (.cells B' 21 (0, 0))) := hB1'
                          clear hspl hSp hperm hTr hC1' hC2' hC3' hB1' hB2' hGY yb HKJ HBGj HABj HPSj HC1 HC3 HGJ HBGi HBBi HOBi
                          have hmk5 := fun w' => run_make (P := Yba.prog) w' 44 21 i2 _ Yba.underlying44 hi2 hz20 .i64 .i64 N N (by omega) (by omega) (by rw [hz22]; omega) (by omega)
                          have hmk6 := fun w' => run_make (P := Yba.prog) w' 44 21 i2 _ Yba.underlying44 hi2 hz20 .i64 .i64 T T (by omega) (by omega) (by rw [hz22]; omega) (by omega)
                          have g1 : Wk.cell? ⟨bg, 6, none⟩ = some nilS := by simp only [World.cell?, HBGk.out]; rfl
                          have g2 : Wk.frozen? ⟨bg, 6, none⟩ = false := by simp [World.frozen?, HBGk.out]
                          have g3 : Wk.cell? ⟨bg, 7, none⟩ = some nilS := by simp only [World.cell?, HBGk.out]; rfl
                          have g4 : Wk.frozen? ⟨bg, 7, none⟩ = false := by simp [World.frozen?, HBGk.out]
                          have hbl : bg < Wk.heap.size := (Array.getElem?_eq_some_iff.1 HBGk.out).1
                          go_wp2_with fail
                          obtain ⟨sb, hsb⟩ : ∃ sb, sb = Wk.heap.size := ⟨_, rfl⟩
                          obtain ⟨Wl, hWl⟩ : ∃ Wl, Wl = (((Wk.setCell ⟨bg, 6, none⟩ (.slice (some ⟨sb, 0, none⟩) N N)).setCell ⟨bg, 7, none⟩ (.slice (some ⟨sb + 1, 0, none⟩) T T)).alloc (.cells (madeCells #[.int .i32 0] N) 21)).alloc (.cells (madeCells #[.int .i32 0] T) 21) := ⟨_, rfl⟩
                          rw [← hsb, ← hWl]
                          have HGL : Hid (GrX bg Wk Wl) := by show GrX _ _ _; rw [hWl]; exact (((GrX.set _ _ _).trans (GrX.set _ _ _)).trans (GrX.of_gr ((Gr.refl _).alloc _))).trans (GrX.of_gr ((Gr.refl _).alloc _))
                          have HBGl : Hid (Wl.heap[bg]? = some (.cells (TreeV.arr ⟨k, wd, P, .slice (some ⟨sb, 0, none⟩) N N, .slice (some ⟨sb + 1, 0, none⟩) T T, .slice (some ⟨bb, 0, none⟩) Q Q⟩) 54 (0, 0))) := by
                            show _ = _; rw [hWl]; exact alloc_block (alloc_block (set_block (o := 7) (set_block (o := 6) HBGk.out (.slice (some ⟨sb, 0, none⟩) N N)) (.slice (some ⟨sb + 1, 0, none⟩) T T)) _) _
                          have HSBl : Hid (Wl.heap[sb]? = some (.cells (madeCells #[.int .i32 0] N) 21 (0, 0))) := by
                            show _ = _; rw [hWl]; refine alloc_block ?_ _
                            have := heap_alloc_new ((Wk.setCell ⟨bg, 6, none⟩ (.slice (some ⟨sb, 0, none⟩) N N)).setCell ⟨bg, 7, none⟩ (.slice (some ⟨sb + 1, 0, none⟩) T T)) (.cells (madeCells #[.int .i32 0] N) 21)
                            rw [show ((Wk.setCell ⟨bg, 6, none⟩ (.slice (some ⟨sb, 0, none⟩) N N)).setCell ⟨bg, 7, none⟩ (.slice (some ⟨sb + 1, 0, none⟩) T T)).heap.size = sb by simp [hsb]] at this
                            exact this
                          have HGBl : Hid (Wl.heap[sb + 1]? = some (.cells (madeCells #[.int .i32 0] T) 21 (0, 0))) := by
                            show _ = _; rw [hWl]
                            have := heap_alloc_new (((Wk.setCell ⟨bg, 6, none⟩ (.slice (some ⟨sb, 0, none⟩) N N)).setCell ⟨bg, 7, none⟩ (.slice (some ⟨sb + 1, 0, none⟩) T T)).alloc (.cells (madeCells #[.int .i32 0] N) 21)) (.cells (madeCells #[.int .i32 0] T) 21)
                            rw [show (((Wk.setCell ⟨bg, 6, none⟩ (.slice (some ⟨sb, 0, none⟩) N N)).setCell ⟨bg, 7, none⟩ (.slice (some ⟨sb + 1, 0, none⟩) T T)).alloc (.cells (madeCells #[.int .i32 0] N) 21)).heap.size = sb + 1 by simp [hsb]] at this
                            exact this
                          have hobl : bb + 1 < sb := by rw [hsb]; exact (Array.getElem?_eq_some_iff.1 HOBk.out).1
                          clear hWl hmk5 hmk6 g1 g2 g3 g4 hbl hsb
                          go_loopw [165] (fun s165 wx => ∃ (j : Nat) (X Y : Array Value), j ≤ N ∧ s165 = .int .i64 j ∧ wx.heap[sb]? = some (.cells X 21 (0, 0)) ∧ X.size = N ∧ (∀ t, t < j → X[t]? = some (.int .i32 (idx (ord.getD t 0).val : Int))) ∧ wx.heap[sb + 1]? = some (.cells Y 21 (0, 0)) ∧ Y.size = T ∧ (∀ t, t < j → ∀ c, c < wd → Y[t * wd + c]? = some (.int .i32 (crdA S s idx k (ord.getD t 0).val c))) ∧ GrY sb (sb + 1) Wl wx) (fun s165 _ => N - (intOf s165).toNat)
                          case atStart => exact ⟨0, _, _, by omega, rfl, HSBl.out, by rw [size_madeCells], fun t ht => by omega, HGBl.out, by rw [size_madeCells], fun t ht => by omega, GrY.of_gr (Gr.refl _)⟩
                          case round =>
                            obtain ⟨j, X, Y, hj, rfl, hX1, hX2, hX3, hY1, hY2, hY3, hgy⟩ := hrel
                            have HX1 := hide hX1
                            have HX3 := hide hX3
                            have HY1 := hide hY1
                            have HY3 := hide hY3
                            have HGM := hide hgy
                            clear hX1 hX3 hY1 hY3 hgy
                            have yb : ∀ {q : Nat} {o : Obj}, Wl.heap[q]? = some o → q ≠ sb → q ≠ sb + 1 → wr.heap[q]? = some o := fun {q o} hv n1 n2 => (HGM.out.block q (Array.getElem?_eq_some_iff.1 hv).1 n1 n2).trans hv
                            have HBGm : Hid (wr.heap[bg]? = some (.cells (TreeV.arr ⟨k, wd, P, .slice (some ⟨sb, 0, none⟩) N N, .slice (some ⟨sb + 1, 0, none⟩) T T, .slice (some ⟨bb, 0, none⟩) Q Q⟩) 54 (0, 0))) := yb HBGl.out (by omega) (by omega)
                            have HABm : Hid (wr.heap[ab]? = some (.cells A 21 (0, 0))) := yb (HGL.out.block HABk.out (by omega)) (by omega) (by omega)
                            have HOBm : Hid (wr.heap[bb + 1]? = some (.cells C' 21 (0, 0))) := yb (HGL.out.block HOBk.out (by omega)) (by omega) (by omega)
                            have HBBm : Hid (wr.heap[bb]? = some (.cells B' 21 (0, 0))) := yb (HGL.out.block HBBk.out (by omega)) (by omega) (by omega)
                            have HKm : Hid (Kp Wb wr) := (HKk.out.x HGL.out (by rw [← HBGS.out]; exact Nat.le_refl _)).y HGM.out (by rw [← HBGS.out]; omega) (by rw [← HBGS.out]; omega)
                            clear yb
                            by_cases hlt : j < N
                            · have hjI : (j : Int) < (N : Int) := by omega --KEEP
                              obtain ⟨x, hx⟩ : ∃ x, x = (ord.getD j 0).val := ⟨_, rfl⟩
                              have hxm : x < m + 1 := by rw [hx]; exact (ord.getD j 0).isLt
                              have hxI : (x : Int) < (N : Int) := by omega
                              have HTk := hide (HT.out.kp ((Kp.refl w).gr HGB.out |>.trans HKm.out))
                              have c1 := HTk.out.ix x (by omega)
                              have f0 : wr.cell? ⟨bb + 1, j, none⟩ = some (.int .i32 (x : Int)) := by simp only [World.cell?, HOBm.out]; rw [hx]; exact HOCk.out j hlt
                              have f6 : wr.cell? ⟨bg, 6, none⟩ = some (.slice (some ⟨sb, 0, none⟩) N N) := by simp only [World.cell?, HBGm.out]; rfl
                              obtain ⟨v, hv⟩ : ∃ v, X[j]? = some v := ⟨_, Array.getElem?_eq_getElem (by omega)⟩
                              have g1 : wr.cell? ⟨sb, j, none⟩ = some v := by simp only [World.cell?, HX1.out]; exact hv
                              have g2 : wr.frozen? ⟨sb, j, none⟩ = false := by simp [World.frozen?, HX1.out]
                              have HXE := hide hx
                              clear hx
                              go_wp2_with fail
                              go_region
                              obtain ⟨Wm, hWm⟩ : ∃ Wm, Wm = (wr.setCell ⟨sb, j, none⟩ (.int .i32 (idx x : Int))).drew := ⟨_, rfl⟩
                              rw [← hWm]
                              have gm : GrX sb wr Wm := by rw [hWm]; exact (GrX.set _ _ _).trans (GrX.of_gr (Gr.refl _).drew)
                              have HXm : Hid (Wm.heap[sb]? = some (.cells (X.setIfInBounds j (.int .i32 (idx x : Int))) 21 (0, 0))) := by show _ = _; rw [hWm]; exact set_block HX1.out _
                              have HYm : Hid (Wm.heap[sb + 1]? = some (.cells Y 21 (0, 0))) := gm.block HY1.out (by omega)
                              have HGm2 := hide gm
                              clear hWm c1 f0 f6 g1 g2 hv
                              obtain ⟨pj, hpj⟩ : ∃ pj, pj = j * wd := ⟨_, rfl⟩
                              have hpT : pj + wd ≤ T := by
                                have := Nat.mul_le_mul_right wd (show j + 1 ≤ N by omega)
                                rw [Nat.add_mul, Nat.one_mul, ← hpj, ← HTe.out] at this
                                exact this
                              obtain ⟨px, hpx⟩ : ∃ px, px = x * wd := ⟨_, rfl⟩
                              have hxT : px + wd ≤ T := by
                                have := Nat.mul_le_mul_right wd (show x + 1 ≤ N by omega)
                                rw [Nat.add_mul, Nat.one_mul, ← hpx, ← HTe.out] at this
                                exact this
                              have mj : (j : Int) * (wd : Int) = (pj : Int) := by rw [hpj]; simp
                              have mj2 : ((j : Int) + 1) * (wd : Int) = (pj : Int) + (wd : Int) := by rw [Int.add_mul, mj]; omega
                              have mx : (x : Int) * (wd : Int) = (px : Int) := by rw [hpx]; simp
                              have w1 := HWR.out pj (by omega)
                              have w2 : IntKind.i64.wrap ((j : Int) * (wd : Int)) = pj := by rw [mj]; exact w1
                              have w3 : IntKind.i64.wrap (((j : Int) + 1) * (wd : Int)) = (pj : Int) + (wd : Int) := by rw [mj2]; exact_mod_cast HWR.out (pj + wd) (by omega)
                              have w4 : IntKind.i64.wrap ((j : Int) + 1) = (j : Int) + 1 := by exact_mod_cast HWR.out (j + 1) (by omega)
                              have w5 := HWR.out x (by omega)
                              have w6 := HWR.out px (by omega)
                              have w7 : IntKind.i64.wrap ((x : Int) * (wd : Int)) = px := by rw [mx]; exact w6
                              have u1 : (0 : Int) ≤ (pj : Int) := by omega
                              have u2 : (pj : Int) + (wd : Int) ≤ (T : Int) := by omega
                              have u3 : (pj : Int) ≤ (pj : Int) + (wd : Int) := by omega
                              have u4 : (0 : Int) ≤ (px : Int) := by omega
                              have u5 : (px : Int) ≤ (T : Int) := by omega
                              have hcw : (pj + wd) - pj = wd := by omega
                              have hsa : (if T = pj then some (⟨sb + 1, 0, none⟩ : Addr) else some ⟨sb + 1, pj, none⟩) = some ⟨sb + 1, pj, none⟩ := by
                                by_cases e : T = pj
                                · have : wd = 0 := by omega
                                  rw [if_pos e, hpj, this]; simp
                                · rw [if_neg e]
                              have hsx : (if T = px then some (⟨ab, 0, none⟩ : Addr) else some ⟨ab, px, none⟩) = some ⟨ab, px, none⟩ := by
                                by_cases e : T = px
                                · have : wd = 0 := by omega
                                  rw [if_pos e, hpx, this]; simp
                                · rw [if_neg e]
                              obtain ⟨cs, hcs⟩ : ∃ cs : List Value, cs = (List.range wd).map fun i => .int .i32 (crdA S s idx k x i) := ⟨_, rfl⟩
                              have hcl : cs.length = wd := by rw [hcs]; simp
                              have hc1 : ∀ v ∈ cs, v.oneCell' = true := by intro v hv; rw [hcs] at hv; obtain ⟨i, _, rfl⟩ := List.mem_map.1 hv; rfl
                              have HABn : Hid (Wm.heap[ab]? = some (.cells A 21 (0, 0))) := gm.block HABm.out (by omega)
                              have hat : ∀ i v, cs[i]? = some v → Wm.drew.cell? ((⟨ab, px, none⟩ : Addr).add i) = some v := fun i v hv => by
                                have hi' : i < wd := by rw [← hcl]; exact (List.getElem?_eq_some_iff.1 hv).1
                                have h1 : Wm.cell? ⟨ab, px + i, none⟩ = some (.int .i32 (crdA S s idx k x i)) := by simp only [World.cell?, HABn.out]; rw [hpx]; exact HA3.out x (by omega) i hi'
                                rw [Addr.add_lit, ← hv, hcs]
                                simp [hi']
                                simpa using h1
                              have hcp := run_copy_row (P := Yba.prog) Wm.drew 44 44 3 21 (sb + 1) pj wd (T - pj) ⟨ab, px, none⟩ (T - px) (T - px) Y 21 cs Yba.underlying44 Yba.size21 HYm.out (by rw [hcl]; exact (Nat.min_eq_right (by omega)).symm) hat (by rw [hcl, hY2]; omega) hc1
                              have f7 : Wm.cell? ⟨bg, 7, none⟩ = some (.slice (some ⟨sb + 1, 0, none⟩) T T) := by simp only [World.cell?, gm.block HBGm.out (show bg ≠ sb by omega)]; rfl
                              obtain ⟨Y1, hY1⟩ : ∃ Y1, Y1 = spl Y pj cs := ⟨_, rfl⟩
                              have e1 : (List.take pj Y.toList ++ cs ++ List.drop (pj + cs.length) Y.toList).toArray = Y1 := hY1.symm
                              rw [e1] at hcp
                              have hYs : Y1.size = T := by rw [hY1, spl_size (by rw [hcl, hY2]; omega), hY2]
                              have HYv : Hid (∀ t, t < j + 1 → ∀ c, c < wd → Y1[t * wd + c]? = some (.int .i32 (crdA S s idx k (ord.getD t 0).val c))) := fun t ht c hc => by
                                rw [hY1, spl_get (by rw [hcl, hY2]; omega), hcl]
                                by_cases e : t = j
                                · subst e
                                  rw [if_pos (by omega), hcs, hpj, show t * wd + c - t * wd = c by omega, ← HXE.out]
                                  simp [hc]
                                · have := Nat.mul_le_mul_right wd (show t + 1 ≤ j by omega)
                                  rw [Nat.add_mul, Nat.one_mul, ← hpj] at this
                                  rw [if_neg (by omega)]
                                  exact HY3.out t (by omega) c hc
                              have HYE := hide hY1
                              clear e1 hY1 hat hc1 hcl hcs hpj hpx gm
                              go_wp2_with fail
                              go_region
                              obtain ⟨Wn, hWn⟩ : ∃ Wn, Wn = Wm.drew.setRow (sb + 1) Y1 := ⟨_, rfl⟩
                              have gn : GrX (sb + 1) Wm Wn := by rw [hWn]; exact (GrX.of_gr (Gr.refl Wm).drew).trans (grx_setRow _ _ _)
                              have bn : Wn.heap[sb + 1]? = some (.cells Y1 21 (0, 0)) := by rw [hWn]; exact setRow_heap _ _ _ _ 21 _ HYm.out
                              rw [← hWn]
                              have HFIN : Hid (∃ (j' : Nat) (X Y : Array Value), j' ≤ N ∧ Value.int .i64 ((j : Int) + 1) = .int .i64 j' ∧ Wn.heap[sb]? = some (.cells X 21 (0, 0)) ∧ X.size = N ∧ (∀ t, t < j' → X[t]? = some (.int .i32 (idx (ord.getD t 0).val : Int))) ∧ Wn.heap[sb + 1]? = some (.cells Y 21 (0, 0)) ∧ Y.size = T ∧ (∀ t, t < j' → ∀ c, c < wd → Y[t * wd + c]? = some (.int .i32 (crdA S s idx k (ord.getD t 0).val c))) ∧ GrY sb (sb + 1) Wl Wn) := by
                                refine ⟨j + 1, _, Y1, by omega, by go_num, gn.block HXm.out (by omega), by simpa using hX2, fun t ht => ?_, bn, hYs, HYv.out, (HGM.out.trans (GrY.left HGm2.out)).trans (GrY.right gn)⟩
                                rw [Array.getElem?_setIfInBounds]
                                by_cases e : j = t
                                · subst e; rw [if_pos rfl, if_pos (by omega), ← HXE.out]
                                · rw [if_neg e]; exact HX3.out t (by omega)
                              clear hWn gn bn hcp
                              go_wp2_with fail
                              exact ⟨HFIN.out, by simp [intOf]; omega⟩
                            · obtain rfl : N = j := by omega
                              have HRB : Hid (wr.heap[w.heap.size + 1]? = some (.cells tree0.arr 54 (0, 0))) := HKm.out.block0 HB6b.out
                              obtain ⟨q0, q1, q2, q3, q4, q5, q6, q7, q8⟩ := tree_cells HBGm.out
                              obtain ⟨r0, r1, r2, r3, r4, r5, r6, r7, r8⟩ := tree_cells HRB.out
                              have rf : ∀ o, wr.frozen? ⟨w.heap.size + 1, o, none⟩ = false := fun o => by simp [World.frozen?, HRB.out]
                              have HKw : Hid (Kp w wr) := (Kp.refl w).gr HGB.out |>.trans HKm.out
                              obtain ⟨a0, n0, c0, p0⟩ := HSL3.out 0
                              obtain ⟨a1, n1, c1, p1⟩ := HSL3.out 1
                              obtain ⟨a2, n2, c2, p2⟩ := HSL3.out 2
                              obtain ⟨a3, n3, c3, p3⟩ := HSL3.out 3
                              have q2' : wr.cell? ⟨bg, 2, none⟩ = some (.slice a0 n0 c0) := by rw [q2]; exact congrArg some p0
                              have q3' : wr.cell? ⟨bg, 3, none⟩ = some (.slice a1 n1 c1) := by rw [q3]; exact congrArg some p1
                              have q4' : wr.cell? ⟨bg, 4, none⟩ = some (.slice a2 n2 c2) := by rw [q4]; exact congrArg some p2
                              have q5' : wr.cell? ⟨bg, 5, none⟩ = some (.slice a3 n3 c3) := by rw [q5]; exact congrArg some p3
                              have HPP : Hid (P 0 = .slice a0 n0 c0 ∧ P 1 = .slice a1 n1 c1 ∧ P 2 = .slice a2 n2 c2 ∧ P 3 = .slice a3 n3 c3) := ⟨p0, p1, p2, p3⟩
                              clear q2 q3 q4 q5 p0 p1 p2 p3
                              have HQ8 : Hid (nd * 2 * wd = Q) := HQe.out.symm
                              have HT8 : Hid ((m + 1) * wd = T) := eT
                              clear eT
                              go_wp2_with fail
                              have hDv : (TreeD.mk k wd nd m P (fun i => bg + 1 + i) sb (sb + 1) bb S ord B').v.arr = #[.int .u8 k, .int .i64 wd, .slice a0 n0 c0, .slice a1 n1 c1, .slice a2 n2 c2, .slice a3 n3 c3, .slice (some ⟨sb, 0, none⟩) N N, .slice (some ⟨sb + 1, 0, none⟩) T T, .slice (some ⟨bb, 0, none⟩) Q Q] := by
                                obtain ⟨h0, h1, h2, h3⟩ := HPP.out
                                simp only [TreeD.v, TreeV.arr, h0, h1, h2, h3, HM1.out, HQ8.out, ← HTe.out]
                              have hG9 : ∀ v0 v1 v2 v3 v4 v5 v6 v7 v8 : Value, GrX (w.heap.size + 1) wr (((((((((wr.setCell ⟨w.heap.size + 1, 0, none⟩ v0).setCell ⟨w.heap.size + 1, 1, none⟩ v1).setCell ⟨w.heap.size + 1, 2, none⟩ v2).setCell ⟨w.heap.size + 1, 3, none⟩ v3).setCell ⟨w.heap.size + 1, 4, none⟩ v4).setCell ⟨w.heap.size + 1, 5, none⟩ v5).setCell ⟨w.heap.size + 1, 6, none⟩ v6).setCell ⟨w.heap.size + 1, 7, none⟩ v7).setCell ⟨w.heap.size + 1, 8, none⟩ v8) := fun v0 v1 v2 v3 v4 v5 v6 v7 v8 =>
                                ((((((((GrX.set _ _ _).trans (GrX.set _ _ _)).trans (GrX.set _ _ _)).trans (GrX.set _ _ _)).trans (GrX.set _ _ _)).trans (GrX.set _ _ _)).trans (GrX.set _ _ _)).trans (GrX.set _ _ _)).trans (GrX.set _ _ _)
                              have HPSm : Hid (∀ i, i < wd → PosRow wr (bg + 1 + i) (S i)) := fun i hi' t ht => by
                                have h1 := (HPSk.out i hi').grx HGL.out (by omega) t ht
                                exact ⟨HGM.out.cell h1.1 (by show bg + 1 + i ≠ _; omega) (by show bg + 1 + i ≠ _; omega), HGM.out.cell h1.2 (by show bg + 1 + i ≠ _; omega) (by show bg + 1 + i ≠ _; omega)⟩
                              have hs1 : sb + 1 < wr.heap.size := (Array.getElem?_eq_some_iff.1 HY1.out).1
                              have HIN : Hid (TreeIn s idx (TreeD.mk k wd nd m P (fun i => bg + 1 + i) sb (sb + 1) bb S ord B') wr) := by
                                refine ⟨fun t ht => ?_, fun t ht i hi' => ?_, fun j v hv => ?_, fun i hi' => HPSm.out i hi'⟩
                                · simp only [World.cell?, HX1.out]; exact HX3.out t (by rw [← HM1.out]; exact ht)
                                · simp only [World.cell?, HY1.out]; exact HY3.out t (by rw [← HM1.out]; exact ht) i hi'
                                · simp only [World.cell?, HBBm.out]; exact hv
                              have HOK2 : Hid (TreeOK s idx (TreeD.mk k wd nd m P (fun i => bg + 1 + i) sb (sb + 1) bb S ord B')) := by
                                refine ⟨HWD.out, HSL3.out, fun i hi' => ?_, HPERM.out, fun i hi' => ?_, fun i hi' => (HS1.out i hi').2.1, ⟨by show 0 < nd; omega, by show nd ≤ 200; omega⟩, fun hw0 => ?_, HTR.out, by show m < 512; have := HM1.out; omega⟩
                                · show P i = _; rw [(HPS3.out i hi').1]; show _ = Value.slice (some ⟨bg + 1 + i, 0, none⟩) (m + 1) (m + 1); rw [HM1.out]
                                · show (S i).Perm (posL s idx k i (m + 1)); rw [HM1.out]; exact (HS1.out i hi').1
                                · obtain ⟨d, hd⟩ := HED.out
                                  have h16 : n ≤ 16 := by have : wd ≠ 0 := hw0; omega
                                  refine ⟨d, ?_, ?_⟩
                                  · show m + 1 ≤ _; rw [HM1.out, ← hd]; exact Nat.le_trans HE2.out (Nat.mul_le_mul_right E h16)
                                  · show _ ≤ nd + 1; rw [← hd]; omega
                              refine bodyPost_ret (v := .agg #[.int .u8 k, .int .i64 wd, .slice a0 n0 c0, .slice a1 n1 c1, .slice a2 n2 c2, .slice a3 n3 c3, .slice (some ⟨sb, 0, none⟩) N N, .slice (some ⟨sb + 1, 0, none⟩) T T, .slice (some ⟨bb, 0, none⟩) Q Q]) (by simp [results, Yba.results8, go_sem, r0, r1, r2, r3, r4, r5, r6, r7, r8]) rfl ⟨_, by rw [hDv], rfl, HM1.out, HOK2.out, HIN.out.keep fun b hb => ?_, fun b hb => ?_, HKw.out.x (hG9 _ _ _ _ _ _ _ _ _) (by omega)⟩
                              · have hbb : b ≠ w.heap.size + 1 ∧ b < wr.heap.size := by
                                  rcases hb with rfl | rfl | rfl | ⟨i, hi', rfl⟩
                                  · first | omega | (dsimp only; omega)
                                  · first | omega | (dsimp only; omega)
                                  · first | omega | (dsimp only; omega)
                                  · have hi'' : i < wd := hi'
                                    first | omega | (dsimp only; omega)
                                exact (hG9 _ _ _ _ _ _ _ _ _).gb.block b hbb.2 (by intro e; cases e; exact hbb.1 rfl)
                              · have hbb : w.heap.size ≤ b ∧ b < wr.heap.size := by
                                  rcases hb with rfl | rfl | rfl | ⟨i, hi', rfl⟩
                                  · first | omega | (dsimp only; omega)
                                  · first | omega | (dsimp only; omega)
                                  · first | omega | (dsimp only; omega)
                                  · have hi'' : i < wd := hi'
                                    first | omega | (dsimp only; omega)
                                exact ⟨hbb.1, Nat.lt_of_lt_of_le hbb.2 (hG9 _ _ _ _ _ _ _ _ _).gb.size⟩
end Go.Proofs.Ybulkdcs
