import Derived.Test.YbulkdcsPlace2
import Derived.Deep.Cut
import Derived.Deep.CutRange
namespace Go.Proofs.Ybulkdcs
open Go.Shelf Go.RowKit Go.Lib Go.Sort
set_option linter.unusedVariables false
set_option linter.unusedSimpArgs false

/-- The nine values of a placement. -/
def plArr : List Int → Array Value
  | [a, b] => #[.int .i64 2, .int .u64 (a / 18446744073709551616), .int .u64 (a % 18446744073709551616), .int .u64 (b / 18446744073709551616), .int .u64 (b % 18446744073709551616), .int .u64 0, .int .u64 0, .int .u64 0, .int .u64 0]
  | [a, b, c, d] => #[.int .i64 4, .int .u64 (a / 18446744073709551616), .int .u64 (a % 18446744073709551616), .int .u64 (b / 18446744073709551616), .int .u64 (b % 18446744073709551616), .int .u64 (c / 18446744073709551616), .int .u64 (c % 18446744073709551616), .int .u64 (d / 18446744073709551616), .int .u64 (d % 18446744073709551616)]
  | _ => #[.int .i64 0, .int .u64 0, .int .u64 0, .int .u64 0, .int .u64 0, .int .u64 0, .int .u64 0, .int .u64 0, .int .u64 0]

theorem pl_cells {w : World} {bl : Nat} {n : Int} {v1 v2 v3 v4 v5 v6 v7 v8 : Value} (h : w.heap[bl]? = some (PlO n v1 v2 v3 v4 v5 v6 v7 v8)) :
    w.cell? ⟨bl, 0, none⟩ = some (.int .i64 n) ∧ w.cell? ⟨bl, 1, none⟩ = some v1 ∧ w.cell? ⟨bl, 2, none⟩ = some v2 ∧ w.cell? ⟨bl, 3, none⟩ = some v3 ∧ w.cell? ⟨bl, 4, none⟩ = some v4 ∧
    w.cell? ⟨bl, 5, none⟩ = some v5 ∧ w.cell? ⟨bl, 6, none⟩ = some v6 ∧ w.cell? ⟨bl, 7, none⟩ = some v7 ∧ w.cell? ⟨bl, 8, none⟩ = some v8 := by
  simp [World.cell?, h, PlO]

/-- Where a section lies. -/
def placeL (s : Sec) (k : Int) : List Int := (if kN k then [s.off, s.off + max s.sz 1] else []) ++ (if kA k then [s.ad, s.ad + max s.sz 1] else [])


theorem new_block0 (w : World) : ((w.alloc (plO [])).alloc (plO [])).heap[w.heap.size]? = some (plO []) := alloc_block (heap_alloc_new w _) _
theorem GrX.other {bl k : Nat} {a b : World} {o : Obj} (h : GrX bl a b) (hk : k ≠ bl) (hv : a.heap[k]? = some o) : b.heap[k]? = some o :=
  (h.gb.block k (Array.getElem?_eq_some_iff.1 hv).1 (by intro e; cases e; exact hk rfl)).trans hv
theorem pl_frozen {w : World} {bl : Nat} {l : List Int} (h : w.heap[bl]? = some (plO l)) (o : Nat) : w.frozen? ⟨bl, o, none⟩ = false := by
  unfold plO PlO at h
  split at h <;> simp [World.frozen?, h]

theorem new_block (w : World) : ((w.alloc (plO [])).alloc (plO [])).heap[w.heap.size + 1]? = some (plO []) := by
  have := heap_alloc_new (w.alloc (plO [])) (plO [])
  simpa using this

set_option maxHeartbeats 8000000 in
set_option maxRecDepth 100000 in
theorem placeOf_TT (b o : Nat) (s : Sec) (k : Int) (w : World) (hs : SecAt w b o s) (hok : s.ok) (hN : kN k = true) (hA : kA k = true) :
    Calls Yba.prog 14 #[.pointer (some ⟨b, o, none⟩), .int .u8 k] w fun e w' => e = .returned (.agg (plArr [s.off, s.off + max s.sz 1, s.ad, s.ad + max s.sz 1])) ∧ Gr w w' := by
  unfold kN at hN
  unfold kA at hA
  obtain ⟨⟨a1, a2⟩, ⟨b1, b2⟩, ⟨z1, z2⟩⟩ := hok
  have HS := hide hs
  obtain ⟨-, -, -, -, c5⟩ := hs
  have hb : b < w.heap.size := World.block_lt_of_cell? _ _ c5
  have hx0 : 0 ≤ max s.sz 1 := by omega
  have HX : Hid (s.sz = 0 ∧ max s.sz 1 = 1 ∨ 1 ≤ s.sz ∧ max s.sz 1 = s.sz) := by show _ ∨ _; omega
  generalize max s.sz 1 = N at *
  go_enter Yba.func14, Yba.ntmps14
  go_upto_region 2 with fail
  go_cut [6] from 7 to 11 (fun s6 wx => s6 = .int .u64 N ∧ wx = (w.alloc (plO [])).alloc (plO []))
  case first =>
    rcases HX.out with ⟨h0, hn⟩ | ⟨h1, hn⟩
    · go_wp2_with fail
      all_goals (go_meet; exact ⟨by rw [hn], rfl⟩)
    · go_wp2_with fail
      all_goals (go_meet; exact ⟨by rw [hn], rfl⟩)
  case rest =>
  obtain ⟨rfl, rfl⟩ := hcut
  clear c5 HX
  have hc4 := (HS.out.gr (((Gr.refl _).alloc (plO [])).alloc (plO []))).c4
  go_upto_region 4 with fail
  go_cut [] from 15 to 26 (fun wx => wx.heap[w.heap.size + 1]? = some (plO [s.off, s.off + N]) ∧ wx.heap[w.heap.size]? = some (plO []) ∧ Gr w wx)
  case first =>
    go_region_with (first
      | (go_at_call_of 19 (Value.int IntKind.u64 0); refine (after_any s.off 0 b1 (by omega) _).mono ?_; rintro e w1 ⟨rfl, hg1⟩; have HG1 := hide hg1; have d4 := hg1.cell hc4; clear hg1)
      | (go_at_call 19; refine (after_any s.off N b1 hx0 _).mono ?_; rintro e w2 ⟨rfl, hg2⟩; have HG2 := hide hg2; clear hg2)
      | (go_at_call 18; refine (addP_0 (w.heap.size + 1) _ _ _ (by exact HG2.out.block (HG1.out.block (new_block w)))).mono ?_; rintro e w3 ⟨rfl, hb3, hx3⟩))
    all_goals
      go_wp2_with fail
      go_meet
      exact ⟨by simpa using hb3, hx3.other (by omega) (HG2.out.block (HG1.out.block (new_block0 w))), ((((((Gr.refl _).alloc _).alloc _).drew).trans HG1.out).trans HG2.out).x hx3 (by omega)⟩
  case rest =>
  obtain ⟨hbk, hrs, hgr⟩ := hcut
  have HBK := hide hbk
  have HRS := hide hrs
  have HGR := hide hgr
  clear hc4 hbk hgr hrs
  have hc3 := (HS.out.gr HGR.out).c3
  go_upto_region 6 with fail
  go_cut [] from 30 to 41 (fun wx => wx.heap[w.heap.size + 1]? = some (plO [s.off, s.off + N, s.ad, s.ad + N]) ∧ wx.heap[w.heap.size]? = some (plO []) ∧ Gr w wx)
  case first =>
    go_region_with (first
      | (go_at_call_of 19 (Value.int IntKind.u64 0); refine (after_any s.ad 0 a1 (by omega) _).mono ?_; rintro e w1 ⟨rfl, hg1⟩; have HG1 := hide hg1; have d3 := hg1.cell hc3; clear hg1)
      | (go_at_call 19; refine (after_any s.ad N a1 hx0 _).mono ?_; rintro e w2 ⟨rfl, hg2⟩; have HG2 := hide hg2; clear hg2)
      | (go_at_call 18; refine (addP_2 (w.heap.size + 1) _ _ _ _ _ (by exact HG2.out.block (HG1.out.block HBK.out))).mono ?_; rintro e w3 ⟨rfl, hb3, hx3⟩))
    all_goals
      go_wp2_with fail
      go_meet
      exact ⟨by simpa using hb3, hx3.other (by omega) (HG2.out.block (HG1.out.block HRS.out)), ((HGR.out.drew.trans HG1.out).trans HG2.out).x hx3 (by omega)⟩
  case rest =>
  clear hc3 HBK HGR HRS
  obtain ⟨hbk, hrs, hgr⟩ := hcut
  have HBK := hide hbk
  have HRS := hide hrs
  have HGR := hide hgr
  clear hbk hgr hrs
  obtain ⟨e0, e1, e2, e3, e4, e5, e6, e7, e8⟩ := pl_cells HBK.out
  obtain ⟨r0, r1, r2, r3, r4, r5, r6, r7, r8⟩ := pl_cells HRS.out
  have rf := pl_frozen HRS.out
  go_wp2_with fail
  exact bodyPost_ret (v := .agg (plArr [s.off, s.off + N, s.ad, s.ad + N])) (by simp [results, Yba.results14, go_sem, plArr, r0, r1, r2, r3, r4, r5, r6, r7, r8]) rfl ⟨rfl, (((((((((HGR.out.setCell (by simp) _).setCell (by simp) _).setCell (by simp) _).setCell (by simp) _).setCell (by simp) _).setCell (by simp) _).setCell (by simp) _).setCell (by simp) _).setCell (by simp) _)⟩

set_option maxHeartbeats 8000000 in
set_option maxRecDepth 100000 in
theorem placeOf_TF (b o : Nat) (s : Sec) (k : Int) (w : World) (hs : SecAt w b o s) (hok : s.ok) (hN : kN k = true) (hA : kA k = false) :
    Calls Yba.prog 14 #[.pointer (some ⟨b, o, none⟩), .int .u8 k] w fun e w' => e = .returned (.agg (plArr [s.off, s.off + max s.sz 1])) ∧ Gr w w' := by
  unfold kN at hN
  unfold kA at hA
  obtain ⟨⟨a1, a2⟩, ⟨b1, b2⟩, ⟨z1, z2⟩⟩ := hok
  have HS := hide hs
  obtain ⟨-, -, -, -, c5⟩ := hs
  have hb : b < w.heap.size := World.block_lt_of_cell? _ _ c5
  have hx0 : 0 ≤ max s.sz 1 := by omega
  have HX : Hid (s.sz = 0 ∧ max s.sz 1 = 1 ∨ 1 ≤ s.sz ∧ max s.sz 1 = s.sz) := by show _ ∨ _; omega
  generalize max s.sz 1 = N at *
  go_enter Yba.func14, Yba.ntmps14
  go_upto_region 2 with fail
  go_cut [6] from 7 to 11 (fun s6 wx => s6 = .int .u64 N ∧ wx = (w.alloc (plO [])).alloc (plO []))
  case first =>
    rcases HX.out with ⟨h0, hn⟩ | ⟨h1, hn⟩
    · go_wp2_with fail
      all_goals (go_meet; exact ⟨by rw [hn], rfl⟩)
    · go_wp2_with fail
      all_goals (go_meet; exact ⟨by rw [hn], rfl⟩)
  case rest =>
  obtain ⟨rfl, rfl⟩ := hcut
  clear c5 HX
  have hc4 := (HS.out.gr (((Gr.refl _).alloc (plO [])).alloc (plO []))).c4
  go_upto_region 4 with fail
  go_cut [] from 15 to 26 (fun wx => wx.heap[w.heap.size + 1]? = some (plO [s.off, s.off + N]) ∧ wx.heap[w.heap.size]? = some (plO []) ∧ Gr w wx)
  case first =>
    go_region_with (first
      | (go_at_call_of 19 (Value.int IntKind.u64 0); refine (after_any s.off 0 b1 (by omega) _).mono ?_; rintro e w1 ⟨rfl, hg1⟩; have HG1 := hide hg1; have d4 := hg1.cell hc4; clear hg1)
      | (go_at_call 19; refine (after_any s.off N b1 hx0 _).mono ?_; rintro e w2 ⟨rfl, hg2⟩; have HG2 := hide hg2; clear hg2)
      | (go_at_call 18; refine (addP_0 (w.heap.size + 1) _ _ _ (by exact HG2.out.block (HG1.out.block (new_block w)))).mono ?_; rintro e w3 ⟨rfl, hb3, hx3⟩))
    all_goals
      go_wp2_with fail
      go_meet
      exact ⟨by simpa using hb3, hx3.other (by omega) (HG2.out.block (HG1.out.block (new_block0 w))), ((((((Gr.refl _).alloc _).alloc _).drew).trans HG1.out).trans HG2.out).x hx3 (by omega)⟩
  case rest =>
  obtain ⟨hbk, hrs, hgr⟩ := hcut
  have HBK := hide hbk
  have HRS := hide hrs
  have HGR := hide hgr
  clear hc4 hbk hgr hrs
  obtain ⟨e0, e1, e2, e3, e4, e5, e6, e7, e8⟩ := pl_cells HBK.out
  obtain ⟨r0, r1, r2, r3, r4, r5, r6, r7, r8⟩ := pl_cells HRS.out
  have rf := pl_frozen HRS.out
  go_wp2_with fail
  exact bodyPost_ret (v := .agg (plArr [s.off, s.off + N])) (by simp [results, Yba.results14, go_sem, plArr, r0, r1, r2, r3, r4, r5, r6, r7, r8]) rfl ⟨rfl, (((((((((HGR.out.setCell (by simp) _).setCell (by simp) _).setCell (by simp) _).setCell (by simp) _).setCell (by simp) _).setCell (by simp) _).setCell (by simp) _).setCell (by simp) _).setCell (by simp) _)⟩

set_option maxHeartbeats 8000000 in
set_option maxRecDepth 100000 in
theorem placeOf_FT (b o : Nat) (s : Sec) (k : Int) (w : World) (hs : SecAt w b o s) (hok : s.ok) (hN : kN k = false) (hA : kA k = true) :
    Calls Yba.prog 14 #[.pointer (some ⟨b, o, none⟩), .int .u8 k] w fun e w' => e = .returned (.agg (plArr [s.ad, s.ad + max s.sz 1])) ∧ Gr w w' := by
  unfold kN at hN
  unfold kA at hA
  obtain ⟨⟨a1, a2⟩, ⟨b1, b2⟩, ⟨z1, z2⟩⟩ := hok
  have HS := hide hs
  obtain ⟨-, -, -, -, c5⟩ := hs
  have hb : b < w.heap.size := World.block_lt_of_cell? _ _ c5
  have hx0 : 0 ≤ max s.sz 1 := by omega
  have HX : Hid (s.sz = 0 ∧ max s.sz 1 = 1 ∨ 1 ≤ s.sz ∧ max s.sz 1 = s.sz) := by show _ ∨ _; omega
  generalize max s.sz 1 = N at *
  go_enter Yba.func14, Yba.ntmps14
  go_upto_region 2 with fail
  go_cut [6] from 7 to 11 (fun s6 wx => s6 = .int .u64 N ∧ wx = (w.alloc (plO [])).alloc (plO []))
  case first =>
    rcases HX.out with ⟨h0, hn⟩ | ⟨h1, hn⟩
    · go_wp2_with fail
      all_goals (go_meet; exact ⟨by rw [hn], rfl⟩)
    · go_wp2_with fail
      all_goals (go_meet; exact ⟨by rw [hn], rfl⟩)
  case rest =>
  obtain ⟨rfl, rfl⟩ := hcut
  clear c5 HX
  have hc3 := (HS.out.gr (((Gr.refl _).alloc (plO [])).alloc (plO []))).c3
  go_upto_region 6 with fail
  go_cut [] from 30 to 41 (fun wx => wx.heap[w.heap.size + 1]? = some (plO [s.ad, s.ad + N]) ∧ wx.heap[w.heap.size]? = some (plO []) ∧ Gr w wx)
  case first =>
    go_region_with (first
      | (go_at_call_of 19 (Value.int IntKind.u64 0); refine (after_any s.ad 0 a1 (by omega) _).mono ?_; rintro e w1 ⟨rfl, hg1⟩; have HG1 := hide hg1; have d3 := hg1.cell hc3; clear hg1)
      | (go_at_call 19; refine (after_any s.ad N a1 hx0 _).mono ?_; rintro e w2 ⟨rfl, hg2⟩; have HG2 := hide hg2; clear hg2)
      | (go_at_call 18; refine (addP_0 (w.heap.size + 1) _ _ _ (by exact HG2.out.block (HG1.out.block (new_block w)))).mono ?_; rintro e w3 ⟨rfl, hb3, hx3⟩))
    all_goals
      go_wp2_with fail
      go_meet
      exact ⟨by simpa using hb3, hx3.other (by omega) (HG2.out.block (HG1.out.block (new_block0 w))), ((((((Gr.refl _).alloc _).alloc _).drew).trans HG1.out).trans HG2.out).x hx3 (by omega)⟩
  case rest =>
  clear hc3
  obtain ⟨hbk, hrs, hgr⟩ := hcut
  have HBK := hide hbk
  have HRS := hide hrs
  have HGR := hide hgr
  clear hbk hgr hrs
  obtain ⟨e0, e1, e2, e3, e4, e5, e6, e7, e8⟩ := pl_cells HBK.out
  obtain ⟨r0, r1, r2, r3, r4, r5, r6, r7, r8⟩ := pl_cells HRS.out
  have rf := pl_frozen HRS.out
  go_wp2_with fail
  exact bodyPost_ret (v := .agg (plArr [s.ad, s.ad + N])) (by simp [results, Yba.results14, go_sem, plArr, r0, r1, r2, r3, r4, r5, r6, r7, r8]) rfl ⟨rfl, (((((((((HGR.out.setCell (by simp) _).setCell (by simp) _).setCell (by simp) _).setCell (by simp) _).setCell (by simp) _).setCell (by simp) _).setCell (by simp) _).setCell (by simp) _).setCell (by simp) _)⟩

set_option maxHeartbeats 8000000 in
set_option maxRecDepth 100000 in
theorem placeOf_FF (b o : Nat) (s : Sec) (k : Int) (w : World) (hs : SecAt w b o s) (hok : s.ok) (hN : kN k = false) (hA : kA k = false) :
    Calls Yba.prog 14 #[.pointer (some ⟨b, o, none⟩), .int .u8 k] w fun e w' => e = .returned (.agg (plArr [])) ∧ Gr w w' := by
  unfold kN at hN
  unfold kA at hA
  obtain ⟨⟨a1, a2⟩, ⟨b1, b2⟩, ⟨z1, z2⟩⟩ := hok
  obtain ⟨-, -, -, -, c5⟩ := hs
  have hb : b < w.heap.size := World.block_lt_of_cell? _ _ c5
  by_cases hz : 1 ≤ s.sz
  all_goals
    go_enter Yba.func14, Yba.ntmps14
    go_wp2_with fail
    all_goals exact bodyPost_ret (v := .agg (plArr [])) (by simp [results, Yba.results14, go_sem, plArr]) rfl ⟨rfl, (((Gr.refl _).alloc _).alloc _)⟩

theorem placeOf_any (b o : Nat) (s : Sec) (k : Int) (w : World) (hs : SecAt w b o s) (hok : s.ok) :
    Calls Yba.prog 14 #[.pointer (some ⟨b, o, none⟩), .int .u8 k] w fun e w' => e = .returned (.agg (plArr (placeL s k))) ∧ Gr w w' := by
  unfold placeL
  cases hN : kN k <;> cases hA : kA k
  · exact placeOf_FF b o s k w hs hok hN hA
  · exact placeOf_FT b o s k w hs hok hN hA
  · exact placeOf_TF b o s k w hs hok hN hA
  · exact placeOf_TT b o s k w hs hok hN hA

end Go.Proofs.Ybulkdcs
