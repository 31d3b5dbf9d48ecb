import Derived.Test.YbulkdcsFinal
import Derived.Deep.CutBlock
namespace Go.Proofs.Ybulkdcs
open Go.Shelf Go.RowKit Go.Lib Go.Sort
set_option linter.unusedVariables false
set_option linter.unusedSimpArgs false

theorem Yba.info37 : (Yba.prog.info? 37).map (fun i => (i.zero, i.size, i.bytes)) = some (some (.agg #[.int .u32 0, .int .u32 0, .int .u64 0, .int .u64 0, .int .u64 0, .int .u64 0, .int .u32 0, .int .u32 0, .int .u64 0, .int .u64 0]), 10, 64) := by kernel_rfl

set_option maxHeartbeats 400000 in
theorem copy0 (d a : Option Addr) (cap : Nat) (W : World) : (Builtin.copy_ #[27, 27] 3 #[.slice d 0 0, .slice a 0 cap]).run Yba.prog W = .ok (goInt 0) W := by
  obtain ⟨i0, hi, hz0, hz1, hz2⟩ := info_parts Yba.info3
  cases d <;> cases a <;> simp [Builtin.copy_, run_underlying Yba.underlying27, Builtin.lenOf, Builtin.firstCells, sizeOf, typeInfo, hi, hz1, loadCells, loadCellsFrom, storeCells]

/-- The segments' types. -/
def tyArr : Array Value := #[.int .u32 1, .int .u32 2, .int .u32 3, .int .u32 4, .int .u32 6, .int .u32 7, .int .u32 1685382480, .int .u32 1685382481, .int .u32 1685382482]
theorem tyArr_get (i : Nat) (hi : i < 9) : ∃ t : Int, tyArr[i]? = some (.int .u32 t) := by
  match i, hi with
  | 0, _ => exact ⟨_, rfl⟩
  | 1, _ => exact ⟨_, rfl⟩
  | 2, _ => exact ⟨_, rfl⟩
  | 3, _ => exact ⟨_, rfl⟩
  | 4, _ => exact ⟨_, rfl⟩
  | 5, _ => exact ⟨_, rfl⟩
  | 6, _ => exact ⟨_, rfl⟩
  | 7, _ => exact ⟨_, rfl⟩
  | 8, _ => exact ⟨_, rfl⟩
  | n + 9, h => exact absurd h (by omega)
def secZ : Array Value := #[.int .u32 0, .int .u32 0, .int .u64 0, .int .u64 0, .int .u64 0, .int .u64 0, .int .u32 0, .int .u32 0, .int .u64 0, .int .u64 0]
def tabArr (M tb : Nat) : Array Value := #[.int .u64 (M : Int), .int .u32 0, .slice (some ⟨tb, 0, none⟩) M M, .pointer none, .pointer none]
/-- A section's cells, in a row. -/
def SecC (C : Array Value) (o : Nat) (s : Sec) : Prop := C[o + 1]? = some (.int .u32 s.ty) ∧ C[o + 2]? = some (.int .u64 s.flags) ∧ C[o + 3]? = some (.int .u64 s.ad) ∧ C[o + 4]? = some (.int .u64 s.off) ∧ C[o + 5]? = some (.int .u64 s.sz)
/-- The sections handed in. -/
structure SecsAt (w : World) (a : Option Addr) (M : Nat) (s : Nat → Sec) : Prop where
  at_ : 0 < M → ∃ b off, a = some ⟨b, off, none⟩ ∧ ∀ i, i < M → w.cell? ⟨b, off + i * 6, none⟩ = some (.bool (s i).al) ∧ w.cell? ⟨b, off + i * 6 + 1, none⟩ = some (.bool (s i).tl) ∧ w.cell? ⟨b, off + i * 6 + 2, none⟩ = some (.bool (s i).nb) ∧
    w.cell? ⟨b, off + i * 6 + 3, none⟩ = some (.int .u64 (s i).ad) ∧ w.cell? ⟨b, off + i * 6 + 4, none⟩ = some (.int .u64 (s i).off) ∧ w.cell? ⟨b, off + i * 6 + 5, none⟩ = some (.int .u64 (s i).sz)
  ok : ∀ i, i < M → (s i).ok
/-- The numbers handed in. -/
def IntsAt (w : World) (a : Option Addr) (zs : List Int) : Prop := 0 < zs.length → ∃ b off, a = some ⟨b, off, none⟩ ∧ ∀ i, i < zs.length → w.cell? ⟨b, off + i, none⟩ = some (.int .i64 (zs.getD i 0))

theorem set10_far (C : Array Value) (o j : Nat) (ty fl ad of sz : Int) (hj : ¬ (o ≤ j ∧ j < o + 10)) : ((((((((((C.setIfInBounds o (.int .u32 0)).setIfInBounds (o + 1) (.int .u32 ty)).setIfInBounds (o + 2) (.int .u64 fl)).setIfInBounds (o + 3) (.int .u64 ad)).setIfInBounds (o + 4) (.int .u64 of)).setIfInBounds (o + 5) (.int .u64 sz)).setIfInBounds (o + 6) (.int .u32 0)).setIfInBounds (o + 7) (.int .u32 0)).setIfInBounds (o + 8) (.int .u64 0)).setIfInBounds (o + 9) (.int .u64 0))[j]? = C[j]? := by
  simp only [Array.getElem?_setIfInBounds]
  rw [if_neg (by omega), if_neg (by omega), if_neg (by omega), if_neg (by omega), if_neg (by omega), if_neg (by omega), if_neg (by omega), if_neg (by omega), if_neg (by omega), if_neg (by omega)]
theorem set10_1 (C : Array Value) (o : Nat) (ty fl ad of sz : Int) (hs : o + 10 ≤ C.size) : ((((((((((C.setIfInBounds o (.int .u32 0)).setIfInBounds (o + 1) (.int .u32 ty)).setIfInBounds (o + 2) (.int .u64 fl)).setIfInBounds (o + 3) (.int .u64 ad)).setIfInBounds (o + 4) (.int .u64 of)).setIfInBounds (o + 5) (.int .u64 sz)).setIfInBounds (o + 6) (.int .u32 0)).setIfInBounds (o + 7) (.int .u32 0)).setIfInBounds (o + 8) (.int .u64 0)).setIfInBounds (o + 9) (.int .u64 0))[o + 1]? = some (.int .u32 ty) := by
  simp only [Array.getElem?_setIfInBounds, Array.size_setIfInBounds]
  rw [if_neg (by omega), if_neg (by omega), if_neg (by omega), if_neg (by omega), if_neg (by omega), if_neg (by omega), if_neg (by omega), if_neg (by omega), if_pos trivial, if_pos (by omega)]
theorem set10_2 (C : Array Value) (o : Nat) (ty fl ad of sz : Int) (hs : o + 10 ≤ C.size) : ((((((((((C.setIfInBounds o (.int .u32 0)).setIfInBounds (o + 1) (.int .u32 ty)).setIfInBounds (o + 2) (.int .u64 fl)).setIfInBounds (o + 3) (.int .u64 ad)).setIfInBounds (o + 4) (.int .u64 of)).setIfInBounds (o + 5) (.int .u64 sz)).setIfInBounds (o + 6) (.int .u32 0)).setIfInBounds (o + 7) (.int .u32 0)).setIfInBounds (o + 8) (.int .u64 0)).setIfInBounds (o + 9) (.int .u64 0))[o + 2]? = some (.int .u64 fl) := by
  simp only [Array.getElem?_setIfInBounds, Array.size_setIfInBounds]
  rw [if_neg (by omega), if_neg (by omega), if_neg (by omega), if_neg (by omega), if_neg (by omega), if_neg (by omega), if_neg (by omega), if_pos trivial, if_pos (by omega)]
theorem set10_3 (C : Array Value) (o : Nat) (ty fl ad of sz : Int) (hs : o + 10 ≤ C.size) : ((((((((((C.setIfInBounds o (.int .u32 0)).setIfInBounds (o + 1) (.int .u32 ty)).setIfInBounds (o + 2) (.int .u64 fl)).setIfInBounds (o + 3) (.int .u64 ad)).setIfInBounds (o + 4) (.int .u64 of)).setIfInBounds (o + 5) (.int .u64 sz)).setIfInBounds (o + 6) (.int .u32 0)).setIfInBounds (o + 7) (.int .u32 0)).setIfInBounds (o + 8) (.int .u64 0)).setIfInBounds (o + 9) (.int .u64 0))[o + 3]? = some (.int .u64 ad) := by
  simp only [Array.getElem?_setIfInBounds, Array.size_setIfInBounds]
  rw [if_neg (by omega), if_neg (by omega), if_neg (by omega), if_neg (by omega), if_neg (by omega), if_neg (by omega), if_pos trivial, if_pos (by omega)]
theorem set10_4 (C : Array Value) (o : Nat) (ty fl ad of sz : Int) (hs : o + 10 ≤ C.size) : ((((((((((C.setIfInBounds o (.int .u32 0)).setIfInBounds (o + 1) (.int .u32 ty)).setIfInBounds (o + 2) (.int .u64 fl)).setIfInBounds (o + 3) (.int .u64 ad)).setIfInBounds (o + 4) (.int .u64 of)).setIfInBounds (o + 5) (.int .u64 sz)).setIfInBounds (o + 6) (.int .u32 0)).setIfInBounds (o + 7) (.int .u32 0)).setIfInBounds (o + 8) (.int .u64 0)).setIfInBounds (o + 9) (.int .u64 0))[o + 4]? = some (.int .u64 of) := by
  simp only [Array.getElem?_setIfInBounds, Array.size_setIfInBounds]
  rw [if_neg (by omega), if_neg (by omega), if_neg (by omega), if_neg (by omega), if_neg (by omega), if_pos trivial, if_pos (by omega)]
theorem set10_5 (C : Array Value) (o : Nat) (ty fl ad of sz : Int) (hs : o + 10 ≤ C.size) : ((((((((((C.setIfInBounds o (.int .u32 0)).setIfInBounds (o + 1) (.int .u32 ty)).setIfInBounds (o + 2) (.int .u64 fl)).setIfInBounds (o + 3) (.int .u64 ad)).setIfInBounds (o + 4) (.int .u64 of)).setIfInBounds (o + 5) (.int .u64 sz)).setIfInBounds (o + 6) (.int .u32 0)).setIfInBounds (o + 7) (.int .u32 0)).setIfInBounds (o + 8) (.int .u64 0)).setIfInBounds (o + 9) (.int .u64 0))[o + 5]? = some (.int .u64 sz) := by
  simp only [Array.getElem?_setIfInBounds, Array.size_setIfInBounds]
  rw [if_neg (by omega), if_neg (by omega), if_neg (by omega), if_neg (by omega), if_pos trivial, if_pos (by omega)]

/-- A round of the table's loop. -/
theorem law_round {w wr : World} {tb pb M i : Nat} {s : Nat → Sec} {p' : Seg} {C : Array Value} {O : Obj} {ty fl : Int} (hC : wr.heap[tb]? = some (.cells C 37 (0, 0))) (hs : C.size = M * 10) (hi : i < M) (h3 : ∀ t, t < i → SecC C (t * 10) (s t)) (ht : wr.heap[tb + 1]? = some (.cells (tabArr M tb) 33 (0, 0))) (hp : wr.heap[pb]? = some (segO p')) (hg : Gr w wr) (hpt : pb < tb) (hw : w.heap.size ≤ tb) (hty : (s i).ty = ty) (hfl : (s i).flags = fl) :
    ∃ (i_1 : Nat) (C' : Array Value), Value.int .i64 ((i : Int) + 1) = .int .i64 (i_1 : Int) ∧ i_1 ≤ M ∧ (((((((((((wr.setCell ⟨tb, i * 10, none⟩ (.int .u32 0)).setCell ⟨tb, i * 10 + 1, none⟩ (.int .u32 ty)).setCell ⟨tb, i * 10 + 2, none⟩ (.int .u64 fl)).setCell ⟨tb, i * 10 + 3, none⟩ (.int .u64 (s i).ad)).setCell ⟨tb, i * 10 + 4, none⟩ (.int .u64 (s i).off)).setCell ⟨tb, i * 10 + 5, none⟩ (.int .u64 (s i).sz)).setCell ⟨tb, i * 10 + 6, none⟩ (.int .u32 0)).setCell ⟨tb, i * 10 + 7, none⟩ (.int .u32 0)).setCell ⟨tb, i * 10 + 8, none⟩ (.int .u64 0)).setCell ⟨tb, i * 10 + 9, none⟩ (.int .u64 0)).alloc O).heap[tb]? = some (.cells C' 37 (0, 0)) ∧ C'.size = M * 10 ∧ (∀ t, t < i_1 → SecC C' (t * 10) (s t)) ∧ (((((((((((wr.setCell ⟨tb, i * 10, none⟩ (.int .u32 0)).setCell ⟨tb, i * 10 + 1, none⟩ (.int .u32 ty)).setCell ⟨tb, i * 10 + 2, none⟩ (.int .u64 fl)).setCell ⟨tb, i * 10 + 3, none⟩ (.int .u64 (s i).ad)).setCell ⟨tb, i * 10 + 4, none⟩ (.int .u64 (s i).off)).setCell ⟨tb, i * 10 + 5, none⟩ (.int .u64 (s i).sz)).setCell ⟨tb, i * 10 + 6, none⟩ (.int .u32 0)).setCell ⟨tb, i * 10 + 7, none⟩ (.int .u32 0)).setCell ⟨tb, i * 10 + 8, none⟩ (.int .u64 0)).setCell ⟨tb, i * 10 + 9, none⟩ (.int .u64 0)).alloc O).heap[tb + 1]? = some (.cells (tabArr M tb) 33 (0, 0)) ∧ (((((((((((wr.setCell ⟨tb, i * 10, none⟩ (.int .u32 0)).setCell ⟨tb, i * 10 + 1, none⟩ (.int .u32 ty)).setCell ⟨tb, i * 10 + 2, none⟩ (.int .u64 fl)).setCell ⟨tb, i * 10 + 3, none⟩ (.int .u64 (s i).ad)).setCell ⟨tb, i * 10 + 4, none⟩ (.int .u64 (s i).off)).setCell ⟨tb, i * 10 + 5, none⟩ (.int .u64 (s i).sz)).setCell ⟨tb, i * 10 + 6, none⟩ (.int .u32 0)).setCell ⟨tb, i * 10 + 7, none⟩ (.int .u32 0)).setCell ⟨tb, i * 10 + 8, none⟩ (.int .u64 0)).setCell ⟨tb, i * 10 + 9, none⟩ (.int .u64 0)).alloc O).heap[pb]? = some (segO p') ∧ Gr w (((((((((((wr.setCell ⟨tb, i * 10, none⟩ (.int .u32 0)).setCell ⟨tb, i * 10 + 1, none⟩ (.int .u32 ty)).setCell ⟨tb, i * 10 + 2, none⟩ (.int .u64 fl)).setCell ⟨tb, i * 10 + 3, none⟩ (.int .u64 (s i).ad)).setCell ⟨tb, i * 10 + 4, none⟩ (.int .u64 (s i).off)).setCell ⟨tb, i * 10 + 5, none⟩ (.int .u64 (s i).sz)).setCell ⟨tb, i * 10 + 6, none⟩ (.int .u32 0)).setCell ⟨tb, i * 10 + 7, none⟩ (.int .u32 0)).setCell ⟨tb, i * 10 + 8, none⟩ (.int .u64 0)).setCell ⟨tb, i * 10 + 9, none⟩ (.int .u64 0)).alloc O) := by
  have hgx : GrX tb wr ((((((((((wr.setCell ⟨tb, i * 10, none⟩ (.int .u32 0)).setCell ⟨tb, i * 10 + 1, none⟩ (.int .u32 ty)).setCell ⟨tb, i * 10 + 2, none⟩ (.int .u64 fl)).setCell ⟨tb, i * 10 + 3, none⟩ (.int .u64 (s i).ad)).setCell ⟨tb, i * 10 + 4, none⟩ (.int .u64 (s i).off)).setCell ⟨tb, i * 10 + 5, none⟩ (.int .u64 (s i).sz)).setCell ⟨tb, i * 10 + 6, none⟩ (.int .u32 0)).setCell ⟨tb, i * 10 + 7, none⟩ (.int .u32 0)).setCell ⟨tb, i * 10 + 8, none⟩ (.int .u64 0)).setCell ⟨tb, i * 10 + 9, none⟩ (.int .u64 0)) := ((((((((((GrX.set (bl := tb) _ _ _).trans (GrX.set _ _ _)).trans (GrX.set _ _ _)).trans (GrX.set _ _ _)).trans (GrX.set _ _ _)).trans (GrX.set _ _ _)).trans (GrX.set _ _ _)).trans (GrX.set _ _ _)).trans (GrX.set _ _ _)).trans (GrX.set _ _ _))
  refine ⟨i + 1, _, by go_num, by omega, alloc_block (set_block (o := i * 10 + 9) (set_block (o := i * 10 + 8) (set_block (o := i * 10 + 7) (set_block (o := i * 10 + 6) (set_block (o := i * 10 + 5) (set_block (o := i * 10 + 4) (set_block (o := i * 10 + 3) (set_block (o := i * 10 + 2) (set_block (o := i * 10 + 1) (set_block (o := i * 10) hC _) _) _) _) _) _) _) _) _) _) _, by simpa using hs, fun t ht => ?_, alloc_block (hgx.block ht (by omega)) _, alloc_block (hgx.block hp (by omega)) _, (hg.x hgx hw).alloc _⟩
  by_cases e : t = i
  · subst e
    refine ⟨?_, ?_, ?_, ?_, ?_⟩
    · rw [hty]; exact set10_1 C (t * 10) ty fl _ _ _ (by omega)
    · rw [hfl]; exact set10_2 C (t * 10) ty fl _ _ _ (by omega)
    · exact set10_3 C (t * 10) ty fl _ _ _ (by omega)
    · exact set10_4 C (t * 10) ty fl _ _ _ (by omega)
    · exact set10_5 C (t * 10) ty fl _ _ _ (by omega)
  · obtain ⟨h1, h2, h3', h4, h5⟩ := h3 t (by omega)
    refine ⟨?_, ?_, ?_, ?_, ?_⟩
    · exact (set10_far C (i * 10) _ ty fl _ _ _ (by omega)).trans h1
    · exact (set10_far C (i * 10) _ ty fl _ _ _ (by omega)).trans h2
    · exact (set10_far C (i * 10) _ ty fl _ _ _ (by omega)).trans h3'
    · exact (set10_far C (i * 10) _ ty fl _ _ _ (by omega)).trans h4
    · exact (set10_far C (i * 10) _ ty fl _ _ _ (by omega)).trans h5
theorem or2 : bits .or .u64 0 2 = 2 := by decide
theorem or3 : bits .or .u64 0 1024 = 1024 := by decide
theorem or4 : bits .or .u64 2 1024 = 1026 := by decide

theorem Yba.size3 : (Yba.prog.info? 3).map (·.size) = some 1 := by kernel_rfl

set_option maxHeartbeats 8000000 in
set_option maxRecDepth 100000 in
theorem law_any (a0 a3 : Option Addr) (M cap0 n3 cap3 kd : Nat) (s : Nat → Sec) (p : Seg) (zs : List Int) (w : World) (hS : SecsAt w a0 M s) (hpok : p.ok) (hkd : kd < 256) (hzl : zs.length = n3) (hZ : IntsAt w a3 zs) (hMx : M ≤ maxLen) (hnx : n3 ≤ maxLen) :
    Calls Yba.prog 3 #[.slice a0 M cap0, .agg p.arr, .int .u8 kd, .slice a3 n3 cap3] w fun e w' => e = .returned (.bool true) ∧ Kp w w' := by
  have HS := hide hS
  have HPOK := hide hpok
  have HZ := hide hZ
  clear hS hpok hZ
  show Calls Yba.prog 3 #[.slice a0 M cap0, .agg #[.int .u32 p.t, .int .u32 p.fl, .int .u64 p.off, .int .u64 p.va, .int .u64 p.pa, .int .u64 p.fs, .int .u64 p.ms, .int .u64 p.al], .int .u8 kd, .slice a3 n3 cap3] w _
  go_enter Yba.func3, Yba.ntmps3
  by_cases hM : M ≤ 512
  · by_cases hn : n3 ≤ 512
    · have g1 : ¬ (512 : Int) < (M : Int) := by omega
      have g2 : ¬ (512 : Int) < (n3 : Int) := by omega
      have wkd : IntKind.i64.wrap (kd : Int) = kd := by simp [IntKind.wrap, IntKind.bits, IntKind.signed]; omega
      obtain ⟨sl, hsl⟩ : ∃ sl, sl = kd % 10 := ⟨_, rfl⟩
      have esl : Int.tmod (kd : Int) 10 = (sl : Int) := by rw [hsl]; rfl
      have wsl : IntKind.i64.wrap (sl : Int) = sl := by simp [IntKind.wrap, IntKind.bits, IntKind.signed]; omega
      go_upto_region 5 with fail
      obtain ⟨n0, hn0⟩ : ∃ n0, n0 = w.heap.size := ⟨_, rfl⟩
      obtain ⟨Wa, hWa⟩ : ∃ Wa, Wa = ((w.alloc (segO p)).alloc (.cells tyArr 28)).alloc (segO p) := ⟨_, rfl⟩
      have e0 : ((w.alloc (.cells #[.int .u32 p.t, .int .u32 p.fl, .int .u64 p.off, .int .u64 p.va, .int .u64 p.pa, .int .u64 p.fs, .int .u64 p.ms, .int .u64 p.al] 26)).alloc (.cells #[.int .u32 1, .int .u32 2, .int .u32 3, .int .u32 4, .int .u32 6, .int .u32 7, .int .u32 1685382480, .int .u32 1685382481, .int .u32 1685382482] 28)).alloc (.cells #[.int .u32 p.t, .int .u32 p.fl, .int .u64 p.off, .int .u64 p.va, .int .u64 p.pa, .int .u64 p.fs, .int .u64 p.ms, .int .u64 p.al] 26) = Wa := hWa.symm
      rw [e0, ← hn0]
      have HGA : Hid (Gr w Wa) := by show Gr _ _; rw [hWa]; exact (((Gr.refl _).alloc _).alloc _).alloc _
      have HT9 : Hid (Wa.heap[n0 + 1]? = some (.cells tyArr 28 (0, 0))) := by
        show _ = _; rw [hWa, hn0]; refine alloc_block ?_ _
        have := heap_alloc_new (w.alloc (segO p)) (.cells tyArr 28)
        simpa using this
      have HP10 : Hid (Wa.heap[n0 + 2]? = some (segO p)) := by
        show _ = _; rw [hWa, hn0]
        have := heap_alloc_new ((w.alloc (segO p)).alloc (.cells tyArr 28)) (segO p)
        simpa using this
      have HN0 := hide hn0
      have hs10 : sl < 10 := by rw [hsl]; omega
      clear e0 hWa hn0 hsl
      go_upto_if 38 with fail
      obtain ⟨pb, hpb⟩ : ∃ pb, pb = n0 + 1 + 1 := ⟨_, rfl⟩
      have HP10' : Hid (Wa.heap[pb]? = some (segO p)) := by rw [hpb]; exact HP10.out
      have hpn : n0 ≤ pb := by omega
      rw [← hpb]
      clear hpb HP10
      go_cut [] from 38 to 42 (fun wx => ∃ p' : Seg, p'.ok ∧ wx.heap[pb]? = some (segO p') ∧ Gr w wx)
      case first =>
        by_cases h9 : sl < 9
        · have h9I : (sl : Int) < 9 := by omega
          have d9 : decide ((sl : Int) < 9) = true := by simp; omega
          obtain ⟨ty, hty⟩ := tyArr_get sl h9
          have g3 : Wa.cell? ⟨n0 + 1, sl, none⟩ = some (.int .u32 ty) := by simp only [World.cell?, HT9.out]; exact hty
          obtain ⟨c0, -⟩ := seg_cells HP10'.out
          have g4 : Wa.frozen? ⟨pb, 0, none⟩ = false := by simp [World.frozen?, HP10'.out, segO]
          go_wp2_with fail
          go_meet
          exact ⟨{ p with t := ty }, ⟨HPOK.out.off, HPOK.out.va, HPOK.out.fs, HPOK.out.ms⟩, set_block HP10'.out _, HGA.out.setCell (by show w.heap.size ≤ pb; rw [← HN0.out]; exact hpn) _⟩
        · have h9I : ¬ (sl : Int) < 9 := by omega
          have d9 : decide ((sl : Int) < 9) = false := by simp; omega
          go_wp2_with fail
          go_meet
          exact ⟨p, HPOK.out, HP10'.out, HGA.out⟩
      case rest =>
      obtain ⟨p', hp', hb', hg'⟩ := hcut
      have HPOK' := hide hp'
      have HPB := hide hb'
      have HGC := hide hg'
      clear hp' hb' hg' HP10' HT9 HGA HPOK
      obtain ⟨i7, hi7, hz70, hz71, hz72⟩ := info_parts Yba.info37
      have hmk := fun w' => run_make (P := Yba.prog) w' 29 37 i7 _ Yba.underlying29 hi7 hz70 .i64 .i64 M M (by omega) (by omega) (by rw [hz72]; omega) (by omega)
      have wM : IntKind.u64.wrap (M : Int) = M := by simp [IntKind.wrap, IntKind.bits, IntKind.signed]; omega
      go_wp2_with fail
      obtain ⟨tb, htb⟩ : ∃ tb, tb = wc.heap.size := ⟨_, rfl⟩
      obtain ⟨Wb, hWb⟩ : ∃ Wb, Wb = (wc.alloc (.cells (madeCells secZ (M * 10)) 37)).alloc (.cells (tabArr M tb) 33) := ⟨_, rfl⟩
      have e0 : (wc.alloc (.cells (madeCells #[.int .u32 0, .int .u32 0, .int .u64 0, .int .u64 0, .int .u64 0, .int .u64 0, .int .u32 0, .int .u32 0, .int .u64 0, .int .u64 0] (M * 10)) 37)).alloc (.cells #[.int .u64 (M : Int), .int .u32 0, .slice (some ⟨tb, 0, none⟩) M M, .pointer none, .pointer none] 33) = Wb := hWb.symm
      rw [← htb, e0]
      have HGB : Hid (Gr w Wb) := by show Gr _ _; rw [hWb]; exact (HGC.out.alloc _).alloc _
      have HTB : Hid (Wb.heap[tb]? = some (.cells (madeCells secZ (M * 10)) 37 (0, 0))) := by show _ = _; rw [hWb, htb]; exact alloc_block (heap_alloc_new _ _) _
      have HTT : Hid (Wb.heap[tb + 1]? = some (.cells (tabArr M tb) 33 (0, 0))) := by
        show _ = _; rw [hWb, htb]
        have := heap_alloc_new (wc.alloc (.cells (madeCells secZ (M * 10)) 37)) (.cells (tabArr M wc.heap.size) 33)
        simpa using this
      have HPBb : Hid (Wb.heap[pb]? = some (segO p')) := by show _ = _; rw [hWb]; exact alloc_block (alloc_block HPB.out _) _
      have hpt : pb < tb := by rw [htb]; exact (Array.getElem?_eq_some_iff.1 HPB.out).1
      have htw : n0 ≤ tb := by omega
      clear e0 hWb htb hmk HPB HGC
      go_loopw [52] (fun s52 wx => ∃ (i : Nat) (C : Array Value), s52 = .int .i64 i ∧ i ≤ M ∧ wx.heap[tb]? = some (.cells C 37 (0, 0)) ∧ C.size = M * 10 ∧ (∀ t, t < i → SecC C (t * 10) (s t)) ∧ wx.heap[tb + 1]? = some (.cells (tabArr M tb) 33 (0, 0)) ∧ wx.heap[pb]? = some (segO p') ∧ Gr w wx) (fun s52 _ => M - (intOf s52).toNat)
      case atStart => exact ⟨0, _, rfl, by omega, HTB.out, by rw [size_madeCells], fun t ht => by omega, HTT.out, HPBb.out, HGB.out⟩
      case round =>
        obtain ⟨i, C, rfl, hi, hC1, hC2, hC3, ht1, hp1, hg1⟩ := hrel
        have HC1 := hide hC1
        have HC3 := hide hC3
        have HT1 := hide ht1
        have HP1 := hide hp1
        have HG1 := hide hg1
        clear hC1 hC3 ht1 hp1 hg1
        by_cases hlt : i < M
        · have hiI : (i : Int) < (M : Int) := by omega
          obtain ⟨b, off, rfl, hcs⟩ := HS.out.at_ (by omega)
          obtain ⟨c0, c1, c2, c3, c4, c5⟩ := hcs i hlt
          have c0 := HG1.out.cell c0
          have c1 := HG1.out.cell c1
          have c2 := HG1.out.cell c2
          have c3 := HG1.out.cell c3
          have c4 := HG1.out.cell c4
          have c5 := HG1.out.cell c5
          have t2 : wr.cell? ⟨tb + 1, 2, none⟩ = some (.slice (some ⟨tb, 0, none⟩) M M) := by simp only [World.cell?, HT1.out]; rfl
          have htl : tb + 1 < wr.heap.size := (Array.getElem?_eq_some_iff.1 HT1.out).1
          have htl0 : tb < wr.heap.size := by omega
          have hsp : ∀ c, c < 10 → ∃ v, wr.cell? ⟨tb, i * 10 + c, none⟩ = some v := fun c hc => by
            simp only [World.cell?, HC1.out]
            exact ⟨_, Array.getElem?_eq_getElem (show i * 10 + c < C.size by omega)⟩
          obtain ⟨x0, y0⟩ := hsp 0 (by omega)
          obtain ⟨x1, y1⟩ := hsp 1 (by omega)
          obtain ⟨x2, y2⟩ := hsp 2 (by omega)
          obtain ⟨x3, y3⟩ := hsp 3 (by omega)
          obtain ⟨x4, y4⟩ := hsp 4 (by omega)
          obtain ⟨x5, y5⟩ := hsp 5 (by omega)
          obtain ⟨x6, y6⟩ := hsp 6 (by omega)
          obtain ⟨x7, y7⟩ := hsp 7 (by omega)
          obtain ⟨x8, y8⟩ := hsp 8 (by omega)
          obtain ⟨x9, y9⟩ := hsp 9 (by omega)
          rw [Nat.add_zero] at y0
          have yf : ∀ o, wr.frozen? ⟨tb, o, none⟩ = false := fun o => by simp [World.frozen?, HC1.out]
          clear hsp hcs
          obtain ⟨al, hal⟩ : ∃ al, al = (s i).al := ⟨_, rfl⟩
          obtain ⟨tl, htl'⟩ : ∃ tl, tl = (s i).tl := ⟨_, rfl⟩
          obtain ⟨nb, hnb⟩ : ∃ nb, nb = (s i).nb := ⟨_, rfl⟩
          rw [← hal] at c0
          rw [← htl'] at c1
          rw [← hnb] at c2
          have HAL := hide hal
          have HTL := hide htl'
          have HNB := hide hnb
          clear hal htl' hnb
          have hw0 : w.heap.size ≤ tb := by rw [← HN0.out]; exact htw
          have o2 := or2
          have o3 := or3
          have o4 := or4
          cases al <;> cases tl <;> cases nb
          all_goals go_wp2_with fail
          all_goals (
            refine ⟨?_, by simp [intOf]; omega⟩
            refine law_round HC1.out hC2 hlt HC3.out HT1.out HP1.out HG1.out hpt hw0 ?_ ?_
            · unfold Sec.ty; rw [← HNB.out]; rfl
            · unfold Sec.flags; rw [← HAL.out, ← HTL.out]; rfl)
        · obtain rfl : M = i := by omega
          have t0 : wr.cell? ⟨tb + 1, 0, none⟩ = some (.int .u64 (M : Int)) := by simp only [World.cell?, HT1.out]; rfl
          have t1 : wr.cell? ⟨tb + 1, 1, none⟩ = some (.int .u32 0) := by simp only [World.cell?, HT1.out]; rfl
          have t2 : wr.cell? ⟨tb + 1, 2, none⟩ = some (.slice (some ⟨tb, 0, none⟩) M M) := by simp only [World.cell?, HT1.out]; rfl
          have t3 : wr.cell? ⟨tb + 1, 3, none⟩ = some (.pointer none) := by simp only [World.cell?, HT1.out]; rfl
          have t4 : wr.cell? ⟨tb + 1, 4, none⟩ = some (.pointer none) := by simp only [World.cell?, HT1.out]; rfl
          have HSC : Hid (∀ i, i < M → SecAt wr tb (i * 10) (s i)) := fun i hi => by
            obtain ⟨h1, h2, h3, h4, h5⟩ := HC3.out i hi
            refine ⟨?_, ?_, ?_, ?_, ?_⟩
            · simp only [World.cell?, HC1.out]; exact h1
            · simp only [World.cell?, HC1.out]; exact h2
            · simp only [World.cell?, HC1.out]; exact h3
            · simp only [World.cell?, HC1.out]; exact h4
            · simp only [World.cell?, HC1.out]; exact h5
          have hix := index_any tb M s (.int .u64 (M : Int)) (.int .u32 0) (.pointer none) (.pointer none) wr hM HS.out.ok HSC.out
          go_wp2_with fail
          refine hix.mono ?_
          rintro _ Wc ⟨xb, tv, Ds, rfl, hx1, hT1, hxw, hkc⟩
          have HX := hide hx1
          have HTR := hide hT1
          have HKC := hide hkc
          clear hx1 hT1 hkc hix t0 t1 t2 t3 t4
          obtain ⟨hb, hhb⟩ : ∃ hb, hb = Wc.heap.size := ⟨_, rfl⟩
          have hKl : wr.heap.size ≤ hb := by rw [hhb]; exact HKC.out.size
          have hxb : xb < hb := by rw [hhb]; exact (Array.getElem?_eq_some_iff.1 HX.out).1
          obtain ⟨i3, hi3, hz30, hz31, hz32⟩ := info_parts Yba.info3
          have hmk2 := fun w' => run_make (P := Yba.prog) w' 27 3 i3 _ Yba.underlying27 hi3 hz30 .i64 .i64 n3 n3 (by omega) (by omega) (by rw [hz32]; omega) (by omega)
          have hKw : Kp w Wc := (HG1.out.none).trans HKC.out
          obtain ⟨We, hrun, hblk, hge⟩ : ∃ We, (Builtin.copy_ #[27, 27] 3 #[.slice (some ⟨hb, 0, none⟩) n3 n3, .slice a3 n3 cap3]).run Yba.prog (Wc.alloc (.cells (madeCells #[.int .i64 0] n3) 3)) = .ok (goInt n3) We ∧ We.heap[hb]? = some (.cells (zs.map (Value.int .i64)).toArray 3 (0, 0)) ∧ GrX hb Wc We := by
            have hgn := heap_alloc_new Wc (.cells (madeCells #[.int .i64 0] n3) 3)
            rw [← hhb] at hgn
            by_cases h0 : n3 = 0
            · subst h0
              refine ⟨_, copy0 _ _ _ _, ?_, GrX.of_gr ((Gr.refl _).alloc _)⟩
              have hz0 : zs = [] := List.eq_nil_of_length_eq_zero hzl
              rw [hz0]
              rw [hgn]
              have : madeCells #[Value.int .i64 0] 0 = #[] := Array.eq_empty_of_size_eq_zero (size_madeCells _ _)
              rw [this]; rfl
            · obtain ⟨b3, of3, rfl, hc3⟩ := HZ.out (by omega)
              have hcp := run_copy_row (P := Yba.prog) (Wc.alloc (.cells (madeCells #[.int .i64 0] n3) 3)) 27 27 3 3 hb 0 n3 n3 ⟨b3, of3, none⟩ n3 cap3 (madeCells #[.int .i64 0] n3) 3 (zs.map (Value.int .i64)) Yba.underlying27 Yba.size3 hgn (by simp [hzl])
                (fun j v hj => by
                  have hj' : j < zs.length := by have := (List.getElem?_eq_some_iff.1 hj).1; simpa using this
                  have h1 := ((hKw.gr ((Gr.refl _).alloc (.cells (madeCells #[.int .i64 0] n3) 3)))).cell0 (hc3 j hj')
                  rw [Addr.add_lit, h1, ← hj, List.getElem?_map, List.getElem?_eq_getElem hj']
                  simp [hj'])
                (by simp [size_madeCells, hzl]) (by intro v hv; obtain ⟨a, _, rfl⟩ := List.mem_map.1 hv; rfl)
              refine ⟨_, by rw [hcp, List.length_map, hzl], ?_, (GrX.of_gr ((Gr.refl _).alloc _)).trans (grx_setRow _ _ _)⟩
              refine (setRow_heap _ _ _ _ 3 _ hgn).trans ?_
              congr 2
              rw [List.drop_of_length_le (by simp [size_madeCells, hzl])]
              simp
          have hown : We.ownsRow hb 3 1 (.slice (some ⟨hb, 0, none⟩) n3 n3) n3 (zs.map (Value.int .i64)) :=
            ⟨by simp [hzl], .inr ⟨hb, n3, _, rfl, Nat.le_refl _, hblk, Nat.le_refl _, hnx, by simp [hzl], by rw [Nat.mul_one]; exact List.take_of_length_le (by simp [hzl])⟩⟩
          have HKE : Hid (Kp wr We) := HKC.out.x hge hKl
          have HPE := hide (HKE.out.block0 HP1.out)
          obtain ⟨c0, c1, c2, c3, c4, c5, c6, c7⟩ := seg_cells HPE.out
          have hsec := sections_any p' xb hb n3 M s tv (.slice (some ⟨hb, 0, none⟩) n3 n3) (zs.map (Value.int .i64)) Ds We HPOK'.out hM hn (hge.block HX.out (by omega))
            (HTR.out.keep hge.gb.size fun b h1 h2 => hge.gb.block b h2 (by intro e; cases e; omega)) hown hxb (fun b hb' => by rw [hhb]; exact (HTR.out.own.lt b hb').2) (fun D hD b hb' => by rw [hhb]; exact ((HTR.out.each D hD).2.2.2 b hb').2.1) (by rw [hhb]; exact hge.gb.size)
          rw [sorted_held HTR.out, show (Ds.flatMap (pickI p' s M)).length = (heldL p' s M).length by rw [(all_perm HTR.out).length_eq, List.length_map]] at hsec
          have HSECS := hide hsec
          rw [hhb] at hrun
          have HHB := hide hhb
          clear hsec hown hblk hge hKw hhb
          go_wp2_with fail
          rw [← HHB.out]
          refine HSECS.out.mono ?_
          rintro _ Wf ⟨v', rfl, hown, hgf⟩
          obtain ⟨L, hL⟩ : ∃ L, L = (heldL p' s M).length := ⟨_, rfl⟩
          rw [← hL] at hown
          obtain ⟨nL, hnL⟩ : ∃ nL, nL = n3 + L := ⟨_, rfl⟩
          rw [← hnL] at hown
          have HOWN := hide hown
          have HKF : Hid (Kp wr Wf) := HKE.out.by_ hgf (by intro x hx; have : hb = x := by simpa [Value.ownBlock] using hx
                                                           omega)
          have hLM : L ≤ 511 := by rw [hL]; have := heldL_len p' s M; omega
          obtain ⟨va, vcap, hv, hvc, hva⟩ : ∃ (va : Option Addr) (vcap : Nat), v' = .slice va nL vcap ∧ nL ≤ vcap ∧ (0 < nL → ∃ g, va = some ⟨g, 0, none⟩) := by
            rcases hown.2 with ⟨h1, h2⟩ | ⟨g, cap, cur, h1, _, _, h3, _⟩
            · exact ⟨none, 0, by rw [h1, h2], by omega, fun h => by omega⟩
            · exact ⟨_, cap, h1, h3, fun _ => ⟨g, rfl⟩⟩
          subst hv
          have HVA := hide hva
          have HLL := hide hL
          have hg3 : ¬ (nL : Int) < (n3 : Int) := by omega
          clear hrun hmk2 c0 c1 c2 c3 c4 c5 c6 c7 hown hgf hva hL HSECS
          go_wp2_with fail
          have HKW : Hid (Kp w Wf) := (HG1.out.none).trans HKF.out
          have HTF : Hid (Wf.heap[tb + 1]? = some (.cells (tabArr M tb) 33 (0, 0))) := HKF.out.block0 HT1.out
          have HPF : Hid (Wf.heap[pb]? = some (segO p')) := HKF.out.block0 HP1.out
          have HSF : Hid (∀ i, i < M → SecAt Wf tb (i * 10) (s i)) := fun i hi => (HSC.out i hi).kp HKF.out
          clear HSC HKF HT1 HP1 HG1 HKE HKC HX HTR HPE HC1 HC3
          go_loopw [102] (fun s102 wx => ∃ i : Nat, s102 = .int .i64 i ∧ i ≤ n3 ∧ Gr Wf wx) (fun s102 _ => n3 - (intOf s102).toNat)
          case atStart => exact ⟨0, rfl, by omega, Gr.refl _⟩
          case round =>
            obtain ⟨i, rfl, hi, hgr⟩ := hrel
            have HGR := hide hgr
            clear hgr
            by_cases hlt : i < n3
            · have hiI : (i : Int) < (n3 : Int) := by omega
              have hiJ : (i : Int) < (nL : Int) := by omega
              obtain ⟨g, rfl⟩ := HVA.out (by omega)
              obtain ⟨b3, of3, rfl, hc3⟩ := HZ.out (by omega)
              have q2 := HGR.out.cell (HKW.out.cell0 (hc3 i (by omega)))
              have q1 : wr.cell? ⟨g, i, none⟩ = some (.int .i64 (zs.getD i 0)) := by
                have h1 := HOWN.out.cells (g := g) rfl i (.int .i64 (zs.getD i 0)) (by
                  rw [List.getElem?_append_left (by simp; omega), List.getElem?_map, List.getElem?_eq_getElem (by omega)]
                  simp [show i < zs.length by omega])
                rw [Addr.add_lit, Nat.zero_add] at h1
                exact HGR.out.cell h1
              clear hc3
              generalize zs.getD i 0 = z at q1 q2
              go_wp2_with fail
              go_region
              all_goals go_wp2_with fail
              all_goals exact ⟨⟨i + 1, by go_num, by omega, HGR.out.drew⟩, by simp [intOf]; omega⟩
            · obtain rfl : n3 = i := by omega
              have hnI : (n3 : Int) ≤ (nL : Int) := by omega
              have hnN : n3 ≤ nL := by omega
              have hnLL : nL - n3 = L := by omega
              have hucI : (nL : Int) ≤ (vcap : Int) := by omega
              go_upto_region 35 with fail
              go_cut [21] from 115 to 118 (fun s21 wx => ∃ (ra : Option Addr) (rcap : Nat), s21 = .slice ra L rcap ∧ (0 < L → ∃ g, va = some ⟨g, 0, none⟩ ∧ ra = some ⟨g, n3, none⟩) ∧ wx = wr)
              case first =>
                by_cases hL0 : L = 0
                · by_cases hcn : vcap = n3
                  · subst hcn
                    go_wp2_with fail
                    all_goals go_meet
                    all_goals exact ⟨_, _, by rw [hL0], fun h => by omega, rfl⟩
                  · go_wp2_with fail
                    all_goals go_meet
                    all_goals exact ⟨_, _, by rw [hL0], fun h => by omega, rfl⟩
                · obtain ⟨g, hg⟩ := HVA.out (by omega)
                  subst hg
                  have hif : (if vcap = n3 then some (⟨g, 0, none⟩ : Addr) else some ⟨g, n3, none⟩) = some ⟨g, n3, none⟩ := if_neg (by omega)
                  go_wp2_with fail
                  all_goals go_meet
                  all_goals exact ⟨_, _, rfl, fun _ => ⟨g, rfl, rfl⟩, rfl⟩
              case rest =>
              obtain ⟨ra, rcap, rfl, hra, hwc⟩ := hcut
              obtain rfl := hwc.symm
              have HRA := hide hra
              clear hra hwc hnI hnN hnLL hucI
              go_wp2_with fail
              go_loopw [22, 23] (fun s22 s23 wx => ∃ i : Nat, s23 = .int .i64 i ∧ 1 ≤ i ∧ (i = 1 ∨ i ≤ M) ∧ s22 = .int .i64 ((heldL p' s i).length : Nat) ∧ Gr Wf wx) (fun _ s23 _ => M - (intOf s23).toNat)
              case atStart => exact ⟨1, rfl, by omega, .inl rfl, rfl, HGR.out⟩
              case round =>
                obtain ⟨i, rfl, hi1, hiM, rfl, hgr⟩ := hrel
                have HGR3 := hide hgr
                clear hgr
                have HTr := hide (HGR3.out.block HTF.out)
                have t2 : wr.cell? ⟨tb + 1, 2, none⟩ = some (.slice (some ⟨tb, 0, none⟩) M M) := by simp only [World.cell?, HTr.out]; rfl
                obtain ⟨n, hnn⟩ : ∃ n, n = (heldL p' s i).length := ⟨_, rfl⟩
                rw [← hnn]
                by_cases hlt : i < M
                · have hiI : (i : Int) < (M : Int) := by omega
                  have HPr := hide (HGR3.out.block HPF.out)
                  obtain ⟨c0, c1, c2, c3, c4, c5, c6, c7⟩ := seg_cells HPr.out
                  have hpl : pb < wr.heap.size := (Array.getElem?_eq_some_iff.1 HPr.out).1
                  have htl : tb + 1 < wr.heap.size := (Array.getElem?_eq_some_iff.1 HTr.out).1
                  have k0 := cell_grown hpl c0
                  have k1 := cell_grown hpl c1
                  have k2 := cell_grown hpl c2
                  have k3 := cell_grown hpl c3
                  have k4 := cell_grown hpl c4
                  have k5 := cell_grown hpl c5
                  have k6 := cell_grown hpl c6
                  have k7 := cell_grown hpl c7
                  have k8 := cell_grown htl t2
                  have HSA := hide ((HSF.out i hlt).gr HGR3.out)
                  obtain ⟨hd, hhd⟩ : ∃ hd, hd = heldB p' (s i) := ⟨_, rfl⟩
                  have HHD : Hid (∀ W, SecAt W tb (i * 10) (s i) → Calls Yba.prog 6 #[.agg #[.int .u32 p'.t, .int .u32 p'.fl, .int .u64 p'.off, .int .u64 p'.va, .int .u64 p'.pa, .int .u64 p'.fs, .int .u64 p'.ms, .int .u64 p'.al], .pointer (some ⟨tb, i * 10, none⟩)] W fun e w' => e = .returned (.bool hd) ∧ ∃ q' os', w' = grow (W.drewN q') os') := fun W hW => by
                    have := held_any tb (i * 10) (s i) p' W hW (HS.out.ok i hlt) HPOK'.out
                    rw [← hhd] at this
                    exact this
                  have HHE := hide hhd
                  have HNN := hide hnn
                  clear hhd hnn
                  go_wp2_with fail
                  refine wp_region_quiet_grown (by kernel_rfl) (by kernel_rfl) ?_
                  repeat (go_big_quiet_step ((go_at_call 6; refine Calls.grown_of (HHD.out _ (HSA.out.gr ⟨_, _, rfl⟩)))))
                  refine wpQuiet_nil ?_
                  intro _ hw'
                  obtain ⟨⟨nq, osq⟩, hw''⟩ := hw'
                  obtain ⟨W7, hW7⟩ : ∃ W7, W7 = grow (wr.drewN nq) osq := ⟨_, rfl⟩
                  have HG7 : Hid (Gr Wf W7) := HGR3.out.trans ⟨_, _, hW7⟩
                  subst hw''
                  rw [← hW7]
                  clear hW7 k0 k1 k2 k3 k4 k5 k6 k7 k8 c0 c1 c2 c3 c4 c5 c6 c7 t2
                  cases hd with
                  | true =>
                    have hat := heldL_at p' s i M hi1 hlt HHE.out.symm
                    rw [← HNN.out] at hat
                    have hnl : n < L := by rw [HLL.out]; exact (List.getElem?_eq_some_iff.1 hat).1
                    obtain ⟨g, hvg, rfl⟩ := HRA.out (by omega)
                    have q1 : W7.cell? ⟨g, n3 + n, none⟩ = some (.int .i64 (i : Int)) := by
                      have h1 := HOWN.out.cells (g := g) (by rw [hvg]; rfl) (n3 + n) (.int .i64 (i : Int)) (by
                        rw [List.getElem?_append_right (by simp; omega), List.length_map, hzl, show n3 + n - n3 = n by omega, List.getElem?_map, List.getElem?_map, hat]; rfl)
                      rw [Addr.add_lit, Nat.zero_add] at h1
                      exact HG7.out.cell h1
                    have hnlI : (n : Int) < (L : Int) := by omega
                    have hnl2 : ¬ (L : Int) ≤ (n : Int) := by omega
                    have HSU : Hid ((heldL p' s (i + 1)).length = n + 1) := by show _ = _; rw [heldL_succ p' s i hi1, if_pos HHE.out.symm, List.length_append, ← HNN.out]; rfl
                    clear hat
                    go_wp2_with fail
                    exact ⟨⟨i + 1, by go_num, by omega, .inr (by omega), by rw [HSU.out]; go_num, HG7.out⟩, by simp [intOf]; omega⟩
                  | false =>
                    have HSU : Hid ((heldL p' s (i + 1)).length = n) := by show _ = _; rw [heldL_succ p' s i hi1, if_neg (by rw [← HHE.out]; simp), List.append_nil, ← HNN.out]
                    go_wp2_with fail
                    exact ⟨⟨i + 1, by go_num, by omega, .inr (by omega), by rw [HSU.out], HG7.out⟩, by simp [intOf]; omega⟩
                · have hnL2 : n = L := by
                    rw [hnn, HLL.out]
                    unfold heldL
                    rw [show i - 1 = M - 1 by omega]
                  clear hnn
                  subst hnL2
                  go_wp2_with fail
                  go_ret
                  exact ⟨rfl, HKW.out.gr HGR3.out⟩
    · have g1 : ¬ (512 : Int) < (M : Int) := by omega
      have g2 : (512 : Int) < (n3 : Int) := by omega
      go_wp2_with fail
      go_ret
      exact ⟨rfl, ((Gr.refl w).alloc _).none⟩
  · have g1 : (512 : Int) < (M : Int) := by omega
    go_wp2_with fail
    go_ret
    exact ⟨rfl, ((Gr.refl w).alloc _).none⟩
end Go.Proofs.Ybulkdcs
