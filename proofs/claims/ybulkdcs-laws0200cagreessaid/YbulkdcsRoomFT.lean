import Derived.Test.YbulkdcsRoomH
namespace Go.Proofs.Ybulkdcs
open Go.Shelf Go.RowKit Go.Lib Go.Sort
set_option linter.unusedVariables false
set_option linter.unusedSimpArgs false

set_option maxHeartbeats 8000000 in
set_option maxRecDepth 100000 in
theorem room_FT (p : Seg) (k : Int) (w : World) (hok : p.ok) (hN : kN k = false) (hA : kA k = true) :
    Calls Yba.prog 10 #[.agg p.arr, .int .u8 k] w fun e w' => e = .returned (.agg (plArr [p.va + fst p k, p.va + p.ms])) ∧ Gr w w' := by
  unfold kN at hN
  unfold kA at hA
  obtain ⟨⟨a1, a2⟩, ⟨b1, b2⟩, ⟨z1, z2⟩, ⟨m1, m2⟩⟩ := hok
  have hf0 : 0 ≤ fst p k := by unfold fst; split <;> omega
  have HF : Hid (fst p k = if fstB p k then 1 else 0) := rfl
  have HFB : Hid (fstB p k = ((bits .and .u8 k 8 != 0) && (p.t == 2 || p.t == 4) && (p.ms != 0))) := rfl
  generalize fst p k = F at *
  generalize fstB p k = fb at *
  show Calls Yba.prog 10 #[.agg #[.int .u32 p.t, .int .u32 p.fl, .int .u64 p.off, .int .u64 p.va, .int .u64 p.pa, .int .u64 p.fs, .int .u64 p.ms, .int .u64 p.al], .int .u8 k] w _
  go_enter Yba.func10, Yba.ntmps10
  go_upto_region 2 with fail
  go_cut [24] from 7 to 24 (fun s24 wx => s24 = .bool fb ∧ wx = (w.alloc (segO p)).alloc (plO []))
  case first =>
    obtain ⟨q0, -, -, -, -, -, q6, -⟩ := seg_cells (roomW0 w p)
    have hfb := HFB.out
    cases e1 : (bits .and .u8 k 8 != 0)
    · rw [e1] at hfb
      go_wp2_with fail
      go_meet
      exact ⟨by rw [hfb]; rfl, rfl⟩
    · cases e2 : (p.t == 2)
      · cases e3 : (p.t == 4)
        · rw [e1, e2, e3] at hfb
          clear q6
          go_wp2_with fail
          go_meet
          exact ⟨by rw [hfb]; rfl, rfl⟩
        · rw [e1, e2, e3] at hfb
          go_wp2_with fail
          go_meet
          exact ⟨by rw [hfb]; rfl, rfl⟩
      · rw [e1, e2] at hfb
        go_wp2_with fail
        go_meet
        exact ⟨by rw [hfb]; rfl, rfl⟩
  case rest =>
  obtain ⟨rfl, rfl⟩ := hcut
  clear HFB
  go_upto_if 24 with fail
  go_cut [5] from 24 to 24 (fun s5 wx => s5 = .int .u64 F ∧ wx.heap[w.heap.size]? = some (segO p) ∧ wx.heap[w.heap.size + 1]? = some (plO []) ∧ w.heap.size + 2 ≤ wx.heap.size ∧ Gr w wx)
  case first =>
    have hf := HF.out
    cases fb
    · go_wp2_with fail
      go_meet
      exact ⟨by rw [hf]; rfl, roomW0 w p, roomW1 w _, by simp, ((Gr.refl w).alloc _).alloc _⟩
    · go_wp2_with fail
      go_meet
      exact ⟨by rw [hf]; rfl, roomW0 w p, roomW1 w _, by simp, ((Gr.refl w).alloc _).alloc _⟩
  case rest =>
  obtain ⟨rfl, hb0, hb1, hsz, hgr⟩ := hcut
  obtain ⟨wa, rfl⟩ : ∃ wa : World, wa = wc := ⟨_, rfl⟩
  clear HF
  have hlt0 : w.heap.size < wa.heap.size := by omega
  have hlt1 : w.heap.size + 1 < wa.heap.size := by omega
  have HB0 : Hid ((wa.alloc (plO [])).heap[w.heap.size]? = some (segO p)) := alloc_block hb0 _
  have HB1 : Hid ((wa.alloc (plO [])).heap[w.heap.size + 1]? = some (plO [])) := alloc_block hb1 _
  have HB2 : Hid ((wa.alloc (plO [])).heap[wa.heap.size]? = some (plO [])) := heap_alloc_new _ _
  have HG0 : Hid (Gr w (wa.alloc (plO []))) := hgr.alloc _
  have HBA := hide hb0
  have HBR := hide hb1
  have HGA := hide hgr
  clear hb0 hb1 hgr
  obtain ⟨-, -, s2, s3, -, s5, s6, -⟩ := seg_cells HBA.out
  go_upto_region 8 with fail
  go_cut [] from 41 to 50 (fun wx => wx.heap[w.heap.size]? = some (segO p) ∧ wx.heap[w.heap.size + 1]? = some (plO []) ∧ wx.heap[wa.heap.size]? = some (plO [p.va + F, p.va + p.ms]) ∧ Gr w wx)
  case first =>
    go_region_with (first
      | (go_at_call_of 19 (Value.int IntKind.u64 F); refine (after_any p.va F b1 hf0 _).mono ?_; rintro e w1 ⟨rfl, hg1⟩; have HG1 := hide hg1; have t1 := hg1.cell (by exact (((Gr.refl _).alloc _).drew).cell s3); have t2 := hg1.cell (by exact (((Gr.refl _).alloc _).drew).cell s6); clear hg1)
      | (go_at_call 19; refine (after_any p.va p.ms b1 m1 _).mono ?_; rintro e w2 ⟨rfl, hg2⟩; have HG2 := hide hg2; clear hg2)
      | (go_at_call 18; refine (addP_0 wa.heap.size _ _ _ (by exact HG2.out.block (HG1.out.block HB2.out))).mono ?_; rintro e w3 ⟨rfl, hb3, hx3⟩))
    all_goals
      go_wp2_with fail
      go_meet
      exact ⟨hx3.other (by omega) (HG2.out.block (HG1.out.block HB0.out)), hx3.other (by omega) (HG2.out.block (HG1.out.block HB1.out)), hb3, ((HG0.out.drew.trans HG1.out).trans HG2.out).x hx3 (by omega)⟩
  case rest =>
  clear s2 s3 s5 s6 HB0 HB1 HB2 HG0
  obtain ⟨hb0, hb1, hb2, hgr⟩ := hcut
  have HB0 := hide hb0
  have HB1 := hide hb1
  have HB2 := hide hb2
  have HG0 := hide hgr
  clear hb0 hb1 hb2 hgr
  obtain ⟨e0, e1, e2, e3, e4, e5, e6, e7, e8⟩ := pl_cells HB2.out
  obtain ⟨r0, r1, r2, r3, r4, r5, r6, r7, r8⟩ := pl_cells HB1.out
  have rf := pl_frozen HB1.out
  go_wp2_with fail
  exact bodyPost_ret (v := .agg (plArr [p.va + F, p.va + p.ms])) (by simp [results, Yba.results10, go_sem, plArr, r0, r1, r2, r3, r4, r5, r6, r7, r8]) rfl ⟨rfl, (((((((((HG0.out.setCell (by simp) _).setCell (by simp) _).setCell (by simp) _).setCell (by simp) _).setCell (by simp) _).setCell (by simp) _).setCell (by simp) _).setCell (by simp) _).setCell (by simp) _)⟩

end Go.Proofs.Ybulkdcs
