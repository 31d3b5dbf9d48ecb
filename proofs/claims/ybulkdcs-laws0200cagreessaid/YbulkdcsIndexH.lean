import Derived.Test.YbulkdcsTreeNew
import Derived.Deep.AppendLies
import Derived.Deep.RegionHeldLaw
namespace Go.Proofs.Ybulkdcs
open Go.Shelf Go.RowKit Go.Lib Go.Sort
set_option linter.unusedVariables false
set_option linter.unusedSimpArgs false

/-- A section's kind, as a number. -/
def kindN (s : Sec) : Nat := s.kind.toNat
theorem kindN_eq (s : Sec) : s.kind = (kindN s : Int) := by unfold kindN; have := s.kind_bd; omega
theorem kindN_lt (s : Sec) : kindN s < 16 := by unfold kindN; have := s.kind_bd; omega
/-- The indices, below M, of the sections of a kind, section 0 aside. -/
def ixs (s : Nat → Sec) (M k : Nat) : List Nat := (List.range' 1 (M - 1)).filter fun j => decide (kindN (s j) = k)
theorem ixs_succ (s : Nat → Sec) (i k : Nat) (hi : 1 ≤ i) : ixs s (i + 1) k = ixs s i k ++ (if kindN (s i) = k then [i] else []) := by
  unfold ixs
  rw [show i + 1 - 1 = (i - 1) + 1 by omega, List.range'_1_concat, List.filter_append, show 1 + (i - 1) = i by omega]
  congr 1
  by_cases h : kindN (s i) = k
  · simp [h]
  · simp [h]
theorem ixs_mem {s : Nat → Sec} {M k j : Nat} (h : j ∈ ixs s M k) : j < M ∧ 1 ≤ j ∧ kindN (s j) = k := by
  unfold ixs at h
  rw [List.mem_filter, List.mem_range'_1] at h
  have := h.2
  simp at this
  omega
theorem ixs_len (s : Nat → Sec) (M k : Nat) : (ixs s M k).length ≤ M - 1 := by
  unfold ixs
  refine Nat.le_trans (List.length_filter_le _ _) (by simp)
def ixf (s : Nat → Sec) (M k : Nat) (j : Nat) : Nat := (ixs s M k).getD j 0

/-- Sixteen cells. -/
def karr (K : Nat → Value) : Array Value := #[K 0, K 1, K 2, K 3, K 4, K 5, K 6, K 7, K 8, K 9, K 10, K 11, K 12, K 13, K 14, K 15]
theorem karr_get (K : Nat → Value) (c : Nat) (hc : c < 16) : (karr K)[c]? = some (K c) := by
  match c, hc with
  | 0, _ => rfl
  | 1, _ => rfl
  | 2, _ => rfl
  | 3, _ => rfl
  | 4, _ => rfl
  | 5, _ => rfl
  | 6, _ => rfl
  | 7, _ => rfl
  | 8, _ => rfl
  | 9, _ => rfl
  | 10, _ => rfl
  | 11, _ => rfl
  | 12, _ => rfl
  | 13, _ => rfl
  | 14, _ => rfl
  | 15, _ => rfl
  | n + 16, h => exact absurd h (by omega)
theorem karr_set (K : Nat → Value) (c : Nat) (v : Value) (hc : c < 16) : (karr K).setIfInBounds c v = karr (fun i => if i = c then v else K i) := by
  match c, hc with
  | 0, _ => rfl
  | 1, _ => rfl
  | 2, _ => rfl
  | 3, _ => rfl
  | 4, _ => rfl
  | 5, _ => rfl
  | 6, _ => rfl
  | 7, _ => rfl
  | 8, _ => rfl
  | 9, _ => rfl
  | 10, _ => rfl
  | 11, _ => rfl
  | 12, _ => rfl
  | 13, _ => rfl
  | 14, _ => rfl
  | 15, _ => rfl
  | n + 16, h => exact absurd h (by omega)

/-- The rows of the kinds, each its own. -/
structure Rows16 (base : Nat) (s : Nat → Sec) (i : Nat) (K : Nat → Value) (w : World) : Prop where
  own : ∀ k, k < 16 → w.ownsRow base 21 1 (K k) (ixs s i k).length ((ixs s i k).map fun j : Nat => .int .i32 (j : Int))
  apart : ∀ k k', k < 16 → k' < 16 → k ≠ k' → (K k).ownBlock = none ∨ (K k).ownBlock ≠ (K k').ownBlock
theorem Rows16.kp {base : Nat} {s : Nat → Sec} {i : Nat} {K : Nat → Value} {w w' : World} (h : Rows16 base s i K w) (g : Kp w w') : Rows16 base s i K w' :=
  ⟨fun k hk => (h.own k hk).kept g (by cases (K k).ownBlock with | none => exact .inl rfl | some b => exact .inr (by simp)), h.apart⟩
theorem Rows16.step {base : Nat} {s : Nat → Sec} {i c : Nat} {K : Nat → Value} {w W1 w1 : World} {g cap : Nat} (h : Rows16 base s i K w) (hi : 1 ≤ i) (hc : c = kindN (s i)) (hgr : Kp w W1) (hgrow : W1.grownBy w1 (K c).ownBlock)
    (hown : w1.ownsRow base 21 1 (.slice (some ⟨g, 0, none⟩) ((ixs s i c).length + 1) cap) ((ixs s i c).length + 1) (((ixs s i c).map fun j : Nat => Value.int .i32 (j : Int)) ++ [.int .i32 (i : Int)]))
    (hat : (K c).ownBlock = some g ∨ g = W1.heap.size) : Rows16 base s (i + 1) (fun k => if k = c then .slice (some ⟨g, 0, none⟩) ((ixs s i c).length + 1) cap else K k) w1 := by
  have hc16 : c < 16 := by rw [hc]; exact kindN_lt _
  have h1 := h.kp hgr
  have hg : ∀ k, k < 16 → k ≠ c → ∀ b, (K k).ownBlock = some b → b ≠ g := fun k hk hkc b hb => by
    rcases hat with e | e
    · rcases h.apart k c hk hc16 hkc with h2 | h2
      · rw [h2] at hb; cases hb
      · intro e2; rw [hb, e, e2] at h2; exact h2 rfl
    · have := ((h1.own k hk).lt b hb).2
      omega
  refine ⟨fun k hk => ?_, fun k k' hk hk' hne => ?_⟩
  · rw [ixs_succ s i k hi]
    by_cases e : k = c
    · subst e
      rw [if_pos rfl, if_pos hc.symm, List.length_append, List.map_append]
      exact hown
    · rw [if_neg e, if_neg (by rw [← hc]; exact fun e' => e e'.symm), List.append_nil]
      exact (h1.own k hk).kept hgrow (h.apart k c hk hc16 e)
  · by_cases e : k = c
    · have e' : k' ≠ c := by rw [← e]; exact fun e2 => hne e2.symm
      try dsimp only
      rw [if_pos e, if_neg e']
      refine .inr fun e2 => hg k' hk' e' g e2.symm rfl
    · by_cases e' : k' = c
      · try dsimp only
        rw [if_neg e, if_pos e']
        cases hb : (K k).ownBlock with
        | none => exact .inl rfl
        | some b => exact .inr fun e2 => hg k hk e b hb (by simpa [Value.ownBlock] using e2)
      · try dsimp only
        rw [if_neg e, if_neg e']
        exact h.apart k k' hk hk' hne

/-- The kinds, below n, that have sections. -/
def kinds (s : Nat → Sec) (M n : Nat) : List Nat := (List.range n).filter fun k => decide (ixs s M k ≠ [])
theorem kinds_succ (s : Nat → Sec) (M n : Nat) : kinds s M (n + 1) = kinds s M n ++ (if ixs s M n ≠ [] then [n] else []) := by
  unfold kinds
  rw [List.range_succ, List.filter_append]
  congr 1
  by_cases h : ixs s M n = []
  · simp [h]
  · simp [h]

/-- The trees of an index. -/
structure Trees (base : Nat) (s : Nat → Sec) (M n : Nat) (tv : Value) (Ds : List TreeD) (w : World) : Prop where
  own : w.ownsRow base 54 9 tv Ds.length (Ds.flatMap fun D => D.v.arr.toList)
  ks : Ds.map (fun D => D.k) = (kinds s M n).map fun k : Nat => (k : Int)
  each : ∀ D ∈ Ds, TreeOK s (ixf s M D.k.toNat) D ∧ TreeIn s (ixf s M D.k.toNat) D w ∧ D.m + 1 = (ixs s M D.k.toNat).length ∧ (∀ b, D.has b → base ≤ b ∧ b < w.heap.size ∧ tv.ownBlock ≠ some b)
theorem Trees.skip {base : Nat} {s : Nat → Sec} {M n : Nat} {tv : Value} {Ds : List TreeD} {w : World} (h : Trees base s M n tv Ds w) (hn : ixs s M n = []) : Trees base s M (n + 1) tv Ds w :=
  ⟨h.own, by rw [kinds_succ, if_neg (by simp [hn]), List.append_nil]; exact h.ks, h.each⟩
theorem Trees.keep {base : Nat} {s : Nat → Sec} {M n : Nat} {tv : Value} {Ds : List TreeD} {w w' : World} (h : Trees base s M n tv Ds w) (k : w.heap.size ≤ w'.heap.size) (hb : ∀ b, base ≤ b → b < w.heap.size → w'.heap[b]? = w.heap[b]?) : Trees base s M n tv Ds w' := by
  refine ⟨?_, h.ks, fun D hD => ?_⟩
  · refine ⟨h.own.1, ?_⟩
    rcases h.own.2 with hn | ⟨g, cap, cur, rfl, h1, h2, rest⟩
    · exact .inl hn
    · exact .inr ⟨g, cap, cur, rfl, h1, by rw [hb g h1 (Array.getElem?_eq_some_iff.1 h2).1]; exact h2, rest⟩
  · obtain ⟨h1, h2, h3, h4⟩ := h.each D hD
    exact ⟨h1, h2.keep fun b hb' => hb b (h4 b hb').1 (h4 b hb').2.1, h3, fun b hb' => ⟨(h4 b hb').1, Nat.lt_of_lt_of_le (h4 b hb').2.1 k, (h4 b hb').2.2⟩⟩
/-- One more tree. -/
theorem Trees.step {base : Nat} {s : Nat → Sec} {M n : Nat} {tv : Value} {Ds : List TreeD} {D : TreeD} {w W1 w1 : World} {g cap : Nat} (h : Trees base s M n tv Ds w) (hn : ixs s M n ≠ []) (hk : D.k = (n : Int)) (hb : base ≤ w.heap.size)
    (hok : TreeOK s (ixf s M n) D) (hin : TreeIn s (ixf s M n) D W1) (hm : D.m + 1 = (ixs s M n).length) (hbl : ∀ b, D.has b → w.heap.size ≤ b ∧ b < W1.heap.size) (hgr : Kp w W1) (hgrow : W1.grownBy w1 tv.ownBlock)
    (hown : w1.ownsRow base 54 9 (.slice (some ⟨g, 0, none⟩) (Ds.length + 1) cap) (Ds.length + 1) ((Ds.flatMap fun D => D.v.arr.toList) ++ D.v.arr.toList))
    (hat : tv.ownBlock = some g ∨ g = W1.heap.size) : Trees base s M (n + 1) (.slice (some ⟨g, 0, none⟩) (Ds.length + 1) cap) (Ds ++ [D]) w1 := by
  have ht : ∀ b, tv.ownBlock = some b → base ≤ b ∧ b < w.heap.size := fun b hb' => h.own.lt b hb'
  refine ⟨?_, ?_, fun E hE => ?_⟩
  · rw [List.length_append, List.flatMap_append]
    simpa using hown
  · rw [kinds_succ, if_pos hn, List.map_append, List.map_append, h.ks]
    simp [hk]
  · rcases List.mem_append.1 hE with hE | hE
    · obtain ⟨h1, h2, h3, h4⟩ := h.each E hE
      have hbk : ∀ b, E.has b → w1.heap[b]? = w.heap[b]? := fun b hb' => by
        have h5 := h4 b hb'
        exact (hgrow.block b (Nat.lt_of_lt_of_le h5.2.1 hgr.size) (fun e => h5.2.2 e.symm)).trans (hgr.block b h5.2.1 (by simp))
      refine ⟨h1, h2.keep hbk, h3, fun b hb' => ?_⟩
      have h5 := h4 b hb'
      refine ⟨h5.1, Nat.lt_of_lt_of_le h5.2.1 (Nat.le_trans hgr.size hgrow.size), fun e => ?_⟩
      have e : g = b := by simpa [Value.ownBlock] using e
      rcases hat with e2 | e2
      · exact h5.2.2 (by rw [e2, e])
      · have := hgr.size; omega
    · obtain rfl : E = D := by simpa using hE
      have hkn : E.k.toNat = n := by rw [hk]; simp
      rw [hkn]
      have hbk : ∀ b, E.has b → w1.heap[b]? = W1.heap[b]? := fun b hb' => by
        have h5 := hbl b hb'
        exact hgrow.block b h5.2 (fun e => by have := ht b e.symm; omega)
      refine ⟨hok, hin.keep hbk, hm, fun b hb' => ?_⟩
      have h5 := hbl b hb'
      refine ⟨by omega, Nat.lt_of_lt_of_le h5.2 hgrow.size, fun e => ?_⟩
      have e : g = b := by simpa [Value.ownBlock] using e
      rcases hat with e2 | e2
      · have := ht g e2; omega
      · omega

theorem idx45 (K : Nat → Value) (k : Nat) (hk : k < 16) (W : World) : (Instr.index 45 (.agg #[K 0, K 1, K 2, K 3, K 4, K 5, K 6, K 7, K 8, K 9, K 10, K 11, K 12, K 13, K 14, K 15]) (.int .i64 (k : Int))).run Yba.prog W = .ok (K k) W := by
  match k, hk with
  | 0, _ => simp [Instr.index, asIntOf, Yba.underlying45, asAgg, part, Yba.isAgg44, Yba.sizeOf44]
  | 1, _ => simp [Instr.index, asIntOf, Yba.underlying45, asAgg, part, Yba.isAgg44, Yba.sizeOf44]
  | 2, _ => simp [Instr.index, asIntOf, Yba.underlying45, asAgg, part, Yba.isAgg44, Yba.sizeOf44]
  | 3, _ => simp [Instr.index, asIntOf, Yba.underlying45, asAgg, part, Yba.isAgg44, Yba.sizeOf44]
  | 4, _ => simp [Instr.index, asIntOf, Yba.underlying45, asAgg, part, Yba.isAgg44, Yba.sizeOf44]
  | 5, _ => simp [Instr.index, asIntOf, Yba.underlying45, asAgg, part, Yba.isAgg44, Yba.sizeOf44]
  | 6, _ => simp [Instr.index, asIntOf, Yba.underlying45, asAgg, part, Yba.isAgg44, Yba.sizeOf44]
  | 7, _ => simp [Instr.index, asIntOf, Yba.underlying45, asAgg, part, Yba.isAgg44, Yba.sizeOf44]
  | 8, _ => simp [Instr.index, asIntOf, Yba.underlying45, asAgg, part, Yba.isAgg44, Yba.sizeOf44]
  | 9, _ => simp [Instr.index, asIntOf, Yba.underlying45, asAgg, part, Yba.isAgg44, Yba.sizeOf44]
  | 10, _ => simp [Instr.index, asIntOf, Yba.underlying45, asAgg, part, Yba.isAgg44, Yba.sizeOf44]
  | 11, _ => simp [Instr.index, asIntOf, Yba.underlying45, asAgg, part, Yba.isAgg44, Yba.sizeOf44]
  | 12, _ => simp [Instr.index, asIntOf, Yba.underlying45, asAgg, part, Yba.isAgg44, Yba.sizeOf44]
  | 13, _ => simp [Instr.index, asIntOf, Yba.underlying45, asAgg, part, Yba.isAgg44, Yba.sizeOf44]
  | 14, _ => simp [Instr.index, asIntOf, Yba.underlying45, asAgg, part, Yba.isAgg44, Yba.sizeOf44]
  | 15, _ => simp [Instr.index, asIntOf, Yba.underlying45, asAgg, part, Yba.isAgg44, Yba.sizeOf44]
  | n + 16, h => exact absurd h (by omega)
theorem Yba.info54 : (Yba.prog.info? 54).map (fun i => (i.zero, i.size, i.bytes)) = some (some (.agg #[.int .u8 0, .int .i64 0, .slice none 0 0, .slice none 0 0, .slice none 0 0, .slice none 0 0, .slice none 0 0, .slice none 0 0, .slice none 0 0]), 9, 184) := by kernel_rfl

/-- The nine cells of a tree, written out. -/
def nine (k : Int) (wd : Nat) (y : Nat → Option Addr) (n c : Nat → Nat) : Array Value := #[.int .u8 k, .int .i64 wd, .slice (y 0) (n 0) (c 0), .slice (y 1) (n 1) (c 1), .slice (y 2) (n 2) (c 2), .slice (y 3) (n 3) (c 3), .slice (y 4) (n 4) (c 4), .slice (y 5) (n 5) (c 5), .slice (y 6) (n 6) (c 6)]
theorem TreeD.form (D : TreeD) (h : SlP D.P) : ∃ (y : Nat → Option Addr) (n c : Nat → Nat), D.v.arr = nine D.k D.wd y n c := by
  obtain ⟨a0, n0, c0, h0⟩ := h 0
  obtain ⟨a1, n1, c1, h1⟩ := h 1
  obtain ⟨a2, n2, c2, h2⟩ := h 2
  obtain ⟨a3, n3, c3, h3⟩ := h 3
  refine ⟨fun i => match i with | 0 => a0 | 1 => a1 | 2 => a2 | 3 => a3 | 4 => some ⟨D.sb, 0, none⟩ | 5 => some ⟨D.gb, 0, none⟩ | _ => some ⟨D.bb, 0, none⟩,
    fun i => match i with | 0 => n0 | 1 => n1 | 2 => n2 | 3 => n3 | 4 => D.m + 1 | 5 => (D.m + 1) * D.wd | _ => D.nodes * 2 * D.wd,
    fun i => match i with | 0 => c0 | 1 => c1 | 2 => c2 | 3 => c3 | 4 => D.m + 1 | 5 => (D.m + 1) * D.wd | _ => D.nodes * 2 * D.wd, ?_⟩
  simp only [TreeD.v, TreeV.arr, nine, h0, h1, h2, h3]
theorem own_kp {a b : World} {base : Nat} {e : TypeId} {sz : Nat} {v : Value} {n : Nat} {xs : List Value} (h : a.ownsRow base e sz v n xs) (g : Kp a b) : b.ownsRow base e sz v n xs := by
  refine h.kept (row := none) g ?_
  cases hv : v.ownBlock with
  | none => exact .inl rfl
  | some k => exact .inr (by simp)

/-- A round with a new tree. -/
theorem Trees.final {xb M k : Nat} {s : Nat → Sec} {tv : Value} {Ds : List TreeD} {D : TreeD} {Wb wr W2 w1 : World} {g cap : Nat} {ob : Obj} (hx : wr.heap[xb]? = some (.cells #[tv] 50 (0, 0))) (hT : Trees (xb + 1) s M k tv Ds wr) (hG : Wb.grownBy wr (some xb)) (hsz : Wb.heap.size = xb + 1) (hlt : k < 16) (hn : ixs s M k ≠ [])
    (hkp : Kp wr.drew W2) (hk : D.k = (k : Int)) (hok : TreeOK s (ixf s M k) D) (hin : TreeIn s (ixf s M k) D W2) (hm : D.m + 1 = (ixs s M k).length) (hbl : ∀ b, D.has b → wr.heap.size ≤ b ∧ b < W2.heap.size) (hgrow : (W2.alloc ob).grownBy w1 tv.ownBlock)
    (hown : w1.ownsRow (xb + 1) 54 9 (.slice (some ⟨g, 0, none⟩) (Ds.length + 1) cap) (Ds.length + 1) ((Ds.flatMap fun D => D.v.arr.toList) ++ D.v.arr.toList))
    (hat : tv.ownBlock = some g ∨ g = W2.heap.size + 1) : ∃ (k' : Nat) (tv' : Value) (Ds' : List TreeD), Value.int .i64 ((k : Int) + 1) = .int .i64 k' ∧ k' ≤ 16 ∧ (w1.setCell ⟨xb, 0, none⟩ (.slice (some ⟨g, 0, none⟩) (Ds.length + 1) cap)).heap[xb]? = some (.cells #[tv'] 50 (0, 0)) ∧
      Trees (xb + 1) s M k' tv' Ds' (w1.setCell ⟨xb, 0, none⟩ (.slice (some ⟨g, 0, none⟩) (Ds.length + 1) cap)) ∧ Wb.grownBy (w1.setCell ⟨xb, 0, none⟩ (.slice (some ⟨g, 0, none⟩) (Ds.length + 1) cap)) (some xb) := by
  have hkp0 : Kp wr W2 := (Kp.refl wr).gr (Gr.refl wr).drew |>.trans hkp
  have hkp1 : Kp wr (W2.alloc ob) := hkp0.gr ((Gr.refl _).alloc _)
  have hxl : xb < wr.heap.size := (Array.getElem?_eq_some_iff.1 hx).1
  have hxo : some xb ≠ tv.ownBlock := fun e => by have := (hT.own.lt xb e.symm).1; omega
  have hx1 : w1.heap[xb]? = some (.cells #[tv] 50 (0, 0)) := (hgrow.block xb (Nat.lt_of_lt_of_le hxl hkp1.size) hxo).trans (hkp1.block0 hx)
  have hTr := hT.step (W1 := W2.alloc ob) hn hk (by omega) hok (hin.keep fun b hb => by have := (hbl b hb).2; exact Below.heap_alloc _ _ _ this) hm (fun b hb => ⟨(hbl b hb).1, by have := (hbl b hb).2; simp; omega⟩) hkp1 hgrow hown (by simpa using hat)
  have hgx := GrX.set (bl := xb) w1 0 (.slice (some ⟨g, 0, none⟩) (Ds.length + 1) cap)
  refine ⟨k + 1, _, _, by go_num, by omega, set_block hx1 _, hTr.keep hgx.gb.size (fun b hb hb2 => hgx.gb.block b hb2 (by intro e; cases e; omega)), ?_⟩
  have h1 : Wb.grownBy w1 (some xb) := ⟨hgrow.os.trans (hkp1.os.trans hG.os), hgrow.tape.trans (hkp1.tape.trans hG.tape), hgrow.output.trans (hkp1.output.trans hG.output), Nat.le_trans hG.size (Nat.le_trans hkp1.size hgrow.size), fun b hb hne => by
    refine (hgrow.block b (Nat.lt_of_lt_of_le hb (Nat.le_trans hG.size hkp1.size)) fun e => ?_).trans ((hkp1.block b (Nat.lt_of_lt_of_le hb hG.size) (by simp)).trans (hG.block b hb hne))
    have := (hT.own.lt b e.symm).1
    omega⟩
  exact h1.trans hgx.gb
end Go.Proofs.Ybulkdcs
