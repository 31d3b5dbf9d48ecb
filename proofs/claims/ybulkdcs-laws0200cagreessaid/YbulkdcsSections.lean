import Derived.Test.YbulkdcsSecH
import Derived.Test.YbulkdcsCoord2
namespace Go.Proofs.Ybulkdcs
open Go.Shelf Go.RowKit Go.Lib Go.Sort
set_option linter.unusedVariables false
set_option linter.unusedSimpArgs false

theorem sets9 {W1 W2 : World} {o : Obj} {v0 v1 v2 v3 v4 v5 v6 v7 v8 : Value} {RL : Array Value} (hRL : RL = #[v0, v1, v2, v3, v4, v5, v6, v7, v8]) (zb : W2.heap[W1.heap.size]? = some (PlO 0 (.int .u64 0) (.int .u64 0) (.int .u64 0) (.int .u64 0) (.int .u64 0) (.int .u64 0) (.int .u64 0) (.int .u64 0))) (hg : Gr (W1.drew.alloc o) W2) :
    (((((((((W2.setCell ⟨W1.heap.size, 0, none⟩ v0).setCell ⟨W1.heap.size, 1, none⟩ v1).setCell ⟨W1.heap.size, 2, none⟩ v2).setCell ⟨W1.heap.size, 3, none⟩ v3).setCell ⟨W1.heap.size, 4, none⟩ v4).setCell ⟨W1.heap.size, 5, none⟩ v5).setCell ⟨W1.heap.size, 6, none⟩ v6).setCell ⟨W1.heap.size, 7, none⟩ v7).setCell ⟨W1.heap.size, 8, none⟩ v8).heap[W1.heap.size]? = some (.cells RL 62 (0, 0)) ∧ Gr W1 (((((((((W2.setCell ⟨W1.heap.size, 0, none⟩ v0).setCell ⟨W1.heap.size, 1, none⟩ v1).setCell ⟨W1.heap.size, 2, none⟩ v2).setCell ⟨W1.heap.size, 3, none⟩ v3).setCell ⟨W1.heap.size, 4, none⟩ v4).setCell ⟨W1.heap.size, 5, none⟩ v5).setCell ⟨W1.heap.size, 6, none⟩ v6).setCell ⟨W1.heap.size, 7, none⟩ v7).setCell ⟨W1.heap.size, 8, none⟩ v8) := by
  refine ⟨?_, ?_⟩
  · have h := set_block (o := 8) (set_block (o := 7) (set_block (o := 6) (set_block (o := 5) (set_block (o := 4) (set_block (o := 3) (set_block (o := 2) (set_block (o := 1) (set_block (o := 0) zb v0) v1) v2) v3) v4) v5) v6) v7) v8
    refine h.trans ?_
    rw [hRL]; simp
  · exact ((((((((((Gr.refl W1).drew.alloc o).trans hg).setCell (Nat.le_refl _) v0).setCell (Nat.le_refl _) v1).setCell (Nat.le_refl _) v2).setCell (Nat.le_refl _) v3).setCell (Nat.le_refl _) v4).setCell (Nat.le_refl _) v5).setCell (Nat.le_refl _) v6).setCell (Nat.le_refl _) v7 |>.setCell (Nat.le_refl _) v8
theorem alloc9 {W1 W2 : World} {A RL : Array Value} (hRL : RL = A) (hg : Gr W1.drew W2) : (W2.alloc (.cells A 62)).heap[W2.heap.size]? = some (.cells RL 62 (0, 0)) ∧ Gr W1 (W2.alloc (.cells A 62)) := by
  refine ⟨?_, ((Gr.refl W1).drew.trans hg).alloc _⟩
  rw [hRL]; exact heap_alloc_new _ _
theorem sort13_none (p : Option Addr) (cap : Nat) (w : World) : Calls Yba.prog 13 #[.slice p 0 cap] w fun e w' => e = .returned (.tuple #[]) ∧ w' = w := AnyM.slices_Sort_int_none Yba.laysSort13 p cap w
theorem ixf_le (s : Nat → Sec) (M k j : Nat) : ixf s M k j ≤ M := by
  unfold ixf
  rw [List.getD_eq_getElem?_getD]
  cases h : (ixs s M k)[j]? with
  | none => simp
  | some x => have := (ixs_mem (List.mem_of_getElem? h)).1; simp; omega
theorem arr_len (g : TreeV) : g.arr.toList.length = 9 := rfl
theorem Trees.cell {base : Nat} {s : Nat → Sec} {M n : Nat} {tv : Value} {Ds : List TreeD} {w : World} (h : Trees base s M n tv Ds w) {g i : Nat} {D : TreeD} (hg : tv.ownBlock = some g) (hD : Ds[i]? = some D) (c : Nat) (v : Value) (hc : c < 9) (hv : D.v.arr[c]? = some v) : w.cell? ⟨g, i * 9 + c, none⟩ = some v := by
  have h1 := h.own.cells hg (i * 9 + c) v (by rw [flat9 _ (fun D => arr_len D.v) Ds i c D hD hc]; simpa using hv)
  rw [Addr.add_lit, Nat.zero_add] at h1
  exact h1

set_option maxHeartbeats 8000000 in
set_option maxRecDepth 100000 in
theorem sections_any (p : Seg) (xb base nv M : Nat) (s : Nat → Sec) (tv v : Value) (xs : List Value) (Ds : List TreeD) (w : World) (hpok : p.ok) (hM : M ≤ 512) (hnv : nv ≤ 512) (hx : w.heap[xb]? = some (.cells #[tv] 50 (0, 0))) (hT : Trees (xb + 1) s M 16 tv Ds w)
    (hown : w.ownsRow base 3 1 v nv xs) (hxb : xb < base) (htv : ∀ b, tv.ownBlock = some b → b < base) (hDb : ∀ D ∈ Ds, ∀ b, D.has b → b < base) (hbw : base ≤ w.heap.size) :
    Calls Yba.prog 5 #[.agg p.arr, .pointer (some ⟨xb, 0, none⟩), v] w fun e w' => ∃ v', e = .returned v' ∧
      w'.ownsRow base 3 1 v' (nv + (Ds.flatMap (pickI p s M)).length) (xs ++ ((Ds.flatMap (pickI p s M)).mergeSort fun x y => decide (x ≤ y)).map (Value.int .i64)) ∧ w.grownBy w' v.ownBlock := by
  have hcnt := hT.cnt_le
  have HPOK := hide hpok
  have HX := hide hx
  have HT := hide hT
  have HO := hide hown
  have HTV := hide htv
  have HDB := hide hDb
  clear hpok hx hT hown htv hDb
  obtain ⟨ta, tcap, htf, hta⟩ : ∃ (ta : Option Addr) (tcap : Nat), tv = .slice ta Ds.length tcap ∧ (∀ i, i < Ds.length → ∃ g, ta = some ⟨g, 0, none⟩) := by
    rcases HT.out.own.2 with ⟨h1, h2⟩ | ⟨g, cap, cur, h1, _⟩
    · exact ⟨none, 0, by rw [h1, h2], fun i hi => by omega⟩
    · exact ⟨_, _, h1, fun i hi => ⟨g, rfl⟩⟩
  obtain ⟨a0, cap0, hvf⟩ : ∃ (a0 : Option Addr) (cap0 : Nat), v = .slice a0 nv cap0 := by
    rcases HO.out.2 with ⟨h1, h2⟩ | ⟨g, cap, cur, h1, _⟩
    · exact ⟨none, 0, by rw [h1, h2]⟩
    · exact ⟨_, _, h1⟩
  have HVF := hide hvf
  have HTA := hide hta
  have hDl : Ds.length ≤ 16 := by
    have := congrArg List.length HT.out.ks
    rw [List.length_map, List.length_map] at this
    rw [this]; unfold kinds
    exact Nat.le_trans (List.length_filter_le _ _) (by simp)
  go_enter Yba.func5, Yba.ntmps5
  obtain ⟨Wa, hWa⟩ : ∃ Wa, Wa = w.alloc (segO p) := ⟨_, rfl⟩
  have HGA : Hid (Gr w Wa) := by show Gr _ _; rw [hWa]; exact (Gr.refl _).alloc _
  have HPA : Hid (Wa.heap[w.heap.size]? = some (segO p)) := by show _ = _; rw [hWa]; exact heap_alloc_new _ _
  have x0 : w.cell? ⟨xb, 0, none⟩ = some (.slice ta Ds.length tcap) := by simp only [World.cell?, HX.out]; rw [htf]; rfl
  have hxl : xb < w.heap.size := by omega
  have HTF := hide htf
  have HWA := hide hWa
  clear hta htf hWa
  subst hvf
  have hob : ∀ b, (Value.slice a0 nv cap0).ownBlock = some b → base ≤ b ∧ b < w.heap.size := fun b hb => HO.out.lt b hb
  have HOB := hide hob
  clear hob
  go_wp2_with fail
  have e0 : w.alloc (.cells p.arr 26) = Wa := HWA.out.symm
  rw [e0]
  clear e0 x0
  go_loopw [2, 19] (fun s2 s19 wx => ∃ (i : Nat), s19 = .int .i64 i ∧ i ≤ Ds.length ∧ (∀ b, b < base → wx.heap[b]? = w.heap[b]?) ∧ wx.heap[w.heap.size]? = some (segO p) ∧
    wx.ownsRow base 3 1 s2 (nv + ((Ds.take i).flatMap (pickI p s M)).length) (xs ++ ((Ds.take i).flatMap (pickI p s M)).map (Value.int .i64)) ∧ HK Wa (.slice a0 nv cap0) wx s2) (fun _ s19 _ => Ds.length - (intOf s19).toNat)
  case atStart => exact ⟨0, rfl, by omega, fun b hb => HGA.out.below.block b (by omega), HPA.out, by simpa using own_gr HO.out HGA.out, HK.refl _ _⟩
  case round =>
    obtain ⟨i, rfl, hi, hpr, hsg, how, hhk⟩ := hrel
    have HPR := hide hpr
    have HSG := hide hsg
    have HOW := hide how
    have HHK := hide hhk
    clear hpr hsg how hhk
    have pc : ∀ (b o : Nat) (u : Value), b < base → w.cell? ⟨b, o, none⟩ = some u → wr.cell? ⟨b, o, none⟩ = some u := fun b o u hb hu => by
      rw [World.cell?_of_block (w := w) (a := ⟨b, o, none⟩) (HPR.out b hb)]; exact hu
    have x0 : wr.cell? ⟨xb, 0, none⟩ = some (.slice ta Ds.length tcap) := pc _ _ _ hxb (by simp only [World.cell?, HX.out]; rw [HTF.out]; rfl)
    have HPCc := hide pc
    clear pc
    by_cases hlt : i < Ds.length
    · have hiI : (i : Int) < (Ds.length : Int) := by omega
      obtain ⟨g, hg⟩ := HTA.out i hlt
      subst hg
      have hgo : tv.ownBlock = some g := by rw [HTF.out]; rfl
      have hgb : g < base := HTV.out g hgo
      obtain ⟨D, hD⟩ : ∃ D, Ds[i]? = some D := ⟨_, List.getElem?_eq_getElem hlt⟩
      have hDm : D ∈ Ds := List.mem_of_getElem? hD
      obtain ⟨hok, hin0, hml, hbl⟩ := HT.out.each D hDm
      have HTC : Hid (∀ c u, c < 9 → D.v.arr[c]? = some u → wr.cell? ⟨g, i * 9 + c, none⟩ = some u) := fun c u hc hu => HPCc.out _ _ _ hgb (HT.out.cell hgo hD c u hc hu)
      have HIN : Hid (TreeIn s (ixf s M D.k.toNat) D wr) := hin0.keep fun b hb => HPR.out b (HDB.out D hDm b hb)
      have HOKD := hide hok
      have HHAS : Hid (∀ b, D.has b → b < base) := fun b hb => HDB.out D hDm b hb
      have htk : (Ds.take (i + 1)).flatMap (pickI p s M) = (Ds.take i).flatMap (pickI p s M) ++ pickI p s M D := by
        rw [List.take_add_one, hD, List.flatMap_append]; simp
      have HTK := hide htk
      have hcn : ((Ds.take i).flatMap (pickI p s M)).length + (D.m + 1) ≤ 511 := by
        have h1 := flat_len (p := p) (M := M) (Ds := Ds.take i) fun E hE => ⟨_, (HT.out.each E (List.mem_of_mem_take hE)).1⟩
        have h2 := cnt_take Ds (i + 1)
        rw [List.take_add_one, hD, cnt_append] at h2
        have h3 : cnt (some D).toList = D.m + 1 := by simp [cnt]
        omega
      have HUB : Hid (∀ b, b < base → some b ≠ u2.ownBlock) := fun b hb e => by have := (HOW.out.lt b e.symm).1; omega
      have HUS : Hid (some w.heap.size ≠ u2.ownBlock) := fun e => by
        have h0 : w.heap.size < Wa.heap.size := (Array.getElem?_eq_some_iff.1 HPA.out).1
        rcases HHK.out.2 with h | h
        · have := HOB.out _ (by rw [← h]; exact e.symm); omega
        · have := h _ e.symm; omega
      clear hok hin0 hbl htk
      have kd : wr.cell? ⟨g, i * 9, none⟩ = some (.int .u8 D.k) := HTC.out 0 _ (by omega) rfl
      obtain ⟨c0, c1, c2, c3, c4, c5, c6, c7⟩ := seg_cells HSG.out
      have hgl : g < wr.heap.size := World.block_lt_of_cell? _ _ kd
      have hpl : w.heap.size < wr.heap.size := (Array.getElem?_eq_some_iff.1 HSG.out).1
      have k0 := cell_grown hpl c0
      have k1 := cell_grown hpl c1
      have k2 := cell_grown hpl c2
      have k3 := cell_grown hpl c3
      have k4 := cell_grown hpl c4
      have k5 := cell_grown hpl c5
      have k6 := cell_grown hpl c6
      have k7 := cell_grown hpl c7
      have k8 := cell_grown hgl kd
      obtain ⟨tk, htk⟩ : ∃ tk, tk = takesB p.t D.k := ⟨_, rfl⟩
      have HTA9 : Hid (∀ W, Calls Yba.prog 9 #[.agg #[.int .u32 p.t, .int .u32 p.fl, .int .u64 p.off, .int .u64 p.va, .int .u64 p.pa, .int .u64 p.fs, .int .u64 p.ms, .int .u64 p.al], .int .u8 D.k] W fun e w' => e = .returned (.bool tk) ∧ ∃ q' os', w' = grow (W.drewN q') os') := fun W => by
        have := takes_any p D.k W
        rw [← htk] at this
        exact this
      have HTKE := hide htk
      clear htk
      go_wp2_with fail
      refine wp_region_quiet_grown (by kernel_rfl) (by kernel_rfl) ?_
      repeat (go_big_quiet_step ((go_at_call 9; refine Calls.grown_of (HTA9.out _))))
      refine wpQuiet_nil ?_
      intro _ hw'
      obtain ⟨⟨nq, osq⟩, hw''⟩ := hw'
      obtain ⟨W1, hW1⟩ : ∃ W1, W1 = grow (wr.drewN nq) osq := ⟨_, rfl⟩
      have HG1 : Hid (Gr wr W1) := ⟨_, _, hW1⟩
      subst hw''
      rw [← hW1]
      clear hW1 k0 k1 k2 k3 k4 k5 k6 k7 k8 c0 c1 c2 c3 c4 c5 c6 c7 kd HTA9
      cases tk with
      | false =>
        have hp0 : pickI p s M D = [] := by unfold pickI; rw [← HTKE.out]; rfl
        have HP0 := hide hp0
        clear hp0
        go_wp2_with fail
        refine ⟨⟨i + 1, by go_num, by omega, fun b hb => (HG1.out.below.block b (by omega)).trans (HPR.out b hb), HG1.out.block HSG.out, ?_, HHK.out.trans (HK.of_gr HG1.out)⟩, by simp [intOf]; omega⟩
        rw [HTK.out, HP0.out, List.append_nil]
        exact own_gr HOW.out HG1.out
      | true =>
        obtain ⟨r1, r2, r3, r4, r5, r6, r7, r8, hrf, hrc⟩ := plArr_form (roomL p D.k) (by rw [roomL_len]; exact wdOf_cases D.k)
        rw [hrf] at hrc
        rw [roomL_len, ← HOKD.out.wd_] at hrc hrf
        obtain ⟨wd, hwd⟩ : ∃ wd, wd = D.wd := ⟨_, rfl⟩
        have hwc : wd = 0 ∨ wd = 2 ∨ wd = 4 := by rw [hwd, HOKD.out.wd_]; exact wdOf_cases D.k
        rw [← hwd] at hrc hrf
        have HRM : Hid (∀ W, Calls Yba.prog 10 #[.agg #[.int .u32 p.t, .int .u32 p.fl, .int .u64 p.off, .int .u64 p.va, .int .u64 p.pa, .int .u64 p.fs, .int .u64 p.ms, .int .u64 p.al], .int .u8 D.k] W fun e w' => e = .returned (.agg #[.int .i64 (wd : Int), .int .u64 r1, .int .u64 r2, .int .u64 r3, .int .u64 r4, .int .u64 r5, .int .u64 r6, .int .u64 r7, .int .u64 r8]) ∧ Gr W w') := fun W => by
          have := room_any p D.k W HPOK.out
          rw [hrf] at this
          exact this
        obtain ⟨RL, hRL⟩ : ∃ RL : Array Value, RL = #[.int .i64 (wd : Int), .int .u64 r1, .int .u64 r2, .int .u64 r3, .int .u64 r4, .int .u64 r5, .int .u64 r6, .int .u64 r7, .int .u64 r8] := ⟨_, rfl⟩
        rw [← hRL] at hrc
        have HRC := hide hrc
        have HRL := hide hRL
        have HWD := hide hwd
        clear hrf hrc hRL hwd
        have kd : W1.cell? ⟨g, i * 9, none⟩ = some (.int .u8 D.k) := HG1.out.cell (HTC.out 0 _ (by omega) rfl)
        have HSG1 := hide (HG1.out.block HSG.out)
        obtain ⟨c0, c1, c2, c3, c4, c5, c6, c7⟩ := seg_cells HSG1.out
        have hpl1 : w.heap.size < W1.heap.size := (Array.getElem?_eq_some_iff.1 HSG1.out).1
        have hgl1 : g < W1.heap.size := World.block_lt_of_cell? _ _ kd
        go_upto_region 7 with fail
        go_cut [10, 19] from 19 to 61 (fun s10 s19 wx => s19 = .int .i64 i ∧ ∃ lb, s10 = .pointer (some ⟨lb, 0, none⟩) ∧ W1.heap.size ≤ lb ∧ wx.heap[lb]? = some (.cells RL 62 (0, 0)) ∧ Gr W1 wx)
        case first =>
          go_region_law (first
            | (go_simp
               go_at_call 10
               refine (HRM.out _).mono ?_
               rintro _ W2 ⟨rfl, hg2⟩
               first
                 | (have zb : W2.heap[W1.heap.size]? = some (PlO 0 (.int .u64 0) (.int .u64 0) (.int .u64 0) (.int .u64 0) (.int .u64 0) (.int .u64 0) (.int .u64 0) (.int .u64 0)) := hg2.block (heap_alloc_new W1.drew _)
                    obtain ⟨z0, z1, z2, z3, z4, z5, z6, z7, z8⟩ := pl_cells zb
                    have zf : ∀ o, W2.frozen? ⟨W1.heap.size, o, none⟩ = false := fun o => by simp [World.frozen?, zb, PlO]
                    have ZB := hide zb
                    clear zb)
                 | skip
               have HG2 := hide hg2
               clear hg2))
          all_goals go_wp2_with fail
          all_goals go_meet
          all_goals first
            | (have ZC := ZB.out
               refine ⟨rfl, W1.heap.size, rfl, Nat.le_refl _, ?_⟩
               exact sets9 HRL.out ZC HG2.out)
            | (refine ⟨rfl, W2.heap.size, rfl, HG2.out.size, ?_⟩
               exact alloc9 HRL.out HG2.out)
        case rest =>
        obtain ⟨rfl, lb, rfl, hlb, hlbb, hgc⟩ := hcut
        have HLB := hide hlbb
        have HGC := hide (HG1.out.trans hgc)
        clear hlbb kd c0 c1 c2 c3 c4 c5 c6 c7
        have hlb2 : wr.heap.size ≤ lb := Nat.le_trans HG1.out.size hlb
        clear hgc hpl1 hgl1 HSG1 hlb
        have f1 : wc.cell? ⟨g, i * 9 + 1, none⟩ = some (.int .i64 wd) := HGC.out.cell (HTC.out 1 _ (by omega) (by rw [HWD.out]; rfl))
        have hglc : g < wc.heap.size := World.block_lt_of_cell? _ _ f1
        have hw4 : (wd : Int) ≤ 4 := by omega
        go_wp2_with fail
        obtain ⟨qb, hqb⟩ : ∃ qb, qb = wc.heap.size := ⟨_, rfl⟩
        obtain ⟨Wl, hWl⟩ : ∃ Wl, Wl = wc.alloc (.cells #[.int .i32 0, .int .i32 0, .int .i32 0, .int .i32 0] 64) := ⟨_, rfl⟩
        rw [← hWl, ← hqb]
        have HGL : Hid (Gr wr Wl) := by show Gr _ _; rw [hWl]; exact HGC.out.alloc _
        have HQB : Hid (Wl.heap[qb]? = some (.cells #[.int .i32 0, .int .i32 0, .int .i32 0, .int .i32 0] 64 (0, 0))) := by show _ = _; rw [hWl, hqb]; exact heap_alloc_new _ _
        have HLBl : Hid (Wl.heap[lb]? = some (.cells RL 62 (0, 0))) := by show _ = _; rw [hWl]; exact alloc_block HLB.out _
        have hlq : lb < qb := by rw [hqb]; exact (Array.getElem?_eq_some_iff.1 HLB.out).1
        have hgq : wr.heap.size ≤ qb := by rw [hqb]; exact HGC.out.size
        clear hWl hqb f1 hglc HLB HGC
        have hpbl : ∀ c, c < wd → D.pb c < base := fun c hc => HHAS.out _ (.inr (.inr (.inr ⟨c, by rw [← HWD.out]; exact hc, rfl⟩)))
        have hco := coord_tg 64 g (i * 9) lb qb 0 wd 4 (D.m + 1) D.pb (fun _ => D.m + 1) D.S (fun c => (roomL p D.k).getD c 0) #[.int .i32 0, .int .i32 0, .int .i32 0, .int .i32 0] Wl (by omega) (by have := HOKD.out.m512; omega)
          (fun c hc => by
            have h1 := HTC.out (2 + c) _ (by omega) (arr_P _ c (by omega))
            rw [show D.v.P c = _ from HOKD.out.P_ c (by rw [← HWD.out]; exact hc), ← Nat.add_assoc] at h1
            exact HGL.out.cell h1)
          (fun c hc => by rw [(HOKD.out.S_ c (by rw [← HWD.out]; exact hc)).length_eq, posL_len]) (fun c hc => (HIN.out.p_ c (by rw [← HWD.out]; exact hc)).gr HGL.out) (fun c hc => HOKD.out.srt c (by rw [← HWD.out]; exact hc))
          (fun c hc => by simp only [World.cell?, HLBl.out]; exact HRC.out c hc) HQB.out (by simp; omega) (by omega) (by omega) (fun c hc => by have := hpbl c hc; omega) (some ⟨qb, 0, none⟩) (fun _ => rfl)
        refine hco.mono ?_
        rintro _ Wm ⟨rfl, ⟨C', hC1, hC2⟩, hGm⟩
        have HC1 := hide hC1
        have HC2 := hide hC2
        have HGM : Hid (Kp wr Wm) := Kp.by_ HGL.out.none hGm.gb (by intro x hx; cases hx; exact hgq)
        have hsm : qb < Wm.heap.size := (Array.getElem?_eq_some_iff.1 hC1).1
        clear hco hC1 hC2 hGm
        obtain ⟨N, hN⟩ : ∃ N, N = D.m + 1 := ⟨_, rfl⟩
        have hol : D.ord.length = N := by rw [HOKD.out.perm.length_eq, hN]; simp
        have f1 : Wm.cell? ⟨g, i * 9 + 1, none⟩ = some (.int .i64 wd) := HGM.out.cell0 (HTC.out 1 _ (by omega) (by rw [HWD.out]; rfl))
        have f6 : Wm.cell? ⟨g, i * 9 + 6, none⟩ = some (.slice (some ⟨D.sb, 0, none⟩) N N) := HGM.out.cell0 (HTC.out 6 _ (by omega) (by rw [hN]; rfl))
        have hM8 : FindM g (i * 9) D.sb D.gb D.bb qb wd D.nodes D.m (crdA D.S s (ixf s M D.k.toNat) D.k) (fun j => (ixf s M D.k.toNat j : Int)) D.ord (zr p D) D.B Wm := by
          refine ⟨f1, by rw [hol]; exact f6, ?_, ?_, ?_, ?_, ?_, ?_, ?_⟩
          · exact HGM.out.cell0 (HTC.out 7 _ (by omega) (by rw [hol, hN, HWD.out]; rfl))
          · exact HGM.out.cell0 (HTC.out 8 _ (by omega) (by rw [HWD.out]; rfl))
          · exact fun t ht => HGM.out.cell0 (HIN.out.s_ t (by omega))
          · exact fun t ht c hc => by
              have := HGM.out.cell0 (HIN.out.a_ t (by omega) c (by rw [← HWD.out]; exact hc))
              rw [← HWD.out] at this; exact this
          · exact fun j u hu => HGM.out.cell0 (HIN.out.b_ j u hu)
          · intro c hc
            have h1 := HC2.out.2 c
            simp only [World.cell?, HC1.out]
            show C'[c]? = _
            rw [h1, if_pos (by omega)]; rfl
          · have h1 := HHAS.out D.sb (.inl rfl)
            have h2 := HHAS.out D.gb (.inr (.inl rfl))
            have h3 := HHAS.out D.bb (.inr (.inr (.inl rfl)))
            omega
        have HM8 := hide hM8
        have hoff : Off u2 g D.sb D.gb D.bb qb := fun b hb => by
          have h0 := HOW.out.lt b hb
          have h1 := HHAS.out D.sb (.inl rfl)
          have h2 := HHAS.out D.gb (.inr (.inl rfl))
          have h3 := HHAS.out D.bb (.inr (.inr (.inl rfl)))
          omega
        have hixb : ∀ j : Nat, 0 ≤ (ixf s M D.k.toNat j : Int) ∧ (ixf s M D.k.toNat j : Int) ≤ 512 := fun j => by have := ixf_le s M D.k.toNat j; omega
        have HKm : Hid (HK wr u2 Wm u2) := ⟨⟨HGM.out.os, HGM.out.tape, HGM.out.output, HGM.out.size, fun b hb _ => HGM.out.block b hb (by simp)⟩, .inl rfl⟩
        have hownm : Wm.ownsRow base 3 1 u2 (nv + ((Ds.take i).flatMap (pickI p s M)).length) (xs ++ ((Ds.take i).flatMap (pickI p s M)).map (Value.int .i64)) := own_kp HOW.out HGM.out
        have hkd : HK Wm u2 Wm.drew u2 := HK.of_gr (Gr.refl Wm).drew
        have HFD : Hid (Calls Yba.prog 12 #[.pointer (some ⟨g, i * 9, none⟩), .slice (some ⟨qb, 0, none⟩) wd 4, .int .i64 0, .int .i64 0, .int .i64 (N : Int), u2] Wm.drew fun e w' => ∃ v', e = .returned v' ∧
            w'.ownsRow base 3 1 v' (nv + ((Ds.take (i + 1)).flatMap (pickI p s M)).length) (xs ++ ((Ds.take (i + 1)).flatMap (pickI p s M)).map (Value.int .i64)) ∧ HK Wm.drew u2 w' v') := by
          have h1 := find_any base g (i * 9) D.sb D.gb D.bb qb wd D.nodes D.m 4 (crdA D.S s (ixf s M D.k.toNat) D.k) (fun j => (ixf s M D.k.toNat j : Int)) (zr p D) D.ord D.B (some ⟨qb, 0, none⟩) (by omega) HOKD.out.m512 HOKD.out.nd.2 (fun _ => rfl) (by have := HOKD.out.m512; omega) hixb N 0 0 _ u2 _ Wm.drew (by omega) (by omega) HOKD.out.nd.1 (fun _ => rfl)
            (fun h => by rw [hN]; exact HOKD.out.room (by rw [← HWD.out]; exact h)) (HM8.out.hk hkd hoff) hoff hownm.drew (by have := hownm; show base ≤ Wm.heap.size; omega)
            (by rw [List.drop_zero, ← hol, List.take_length, HWD.out]; exact HOKD.out.tree)
          rw [Nat.zero_add] at h1
          refine h1.mono fun e w' h => ?_
          obtain ⟨v', h2, h3, h4⟩ := h
          rw [List.drop_zero, ← hol, List.take_length, HWD.out, pickI_picks HTKE.out.symm] at h3
          refine ⟨v', h2, ?_, h4⟩
          rw [HTK.out, List.length_append, List.map_append, ← Nat.add_assoc, ← List.append_assoc]
          simpa using h3
        have HN := hide hN
        have HOL := hide hol
        have HOFF := hide hoff
        clear hM8 hoff hixb hownm hkd hN hol hpbl
        have hwI : (wd : Int) ≤ 4 := by omega
        go_wp2_with fail
        go_region_law (first
          | (go_simp
             go_at_call 12
             refine HFD.out.mono ?_
             rintro _ W4 ⟨v', rfl, hown4, hhk4⟩
             have HO4 := hide hown4
             have HK4 := hide hhk4
             clear hown4 hhk4))
        all_goals go_wp2_with fail
        all_goals (
          go_roundw
          case rel =>
            refine ⟨i + 1, by go_num, by omega, fun b hb => ?_, ?_, HO4.out, ((HHK.out.trans HKm.out).trans (HK.of_gr (Gr.refl Wm).drew)).trans HK4.out⟩
            · have h1 : b < wr.heap.size := by omega
              exact (HK4.out.1.block b (Nat.lt_of_lt_of_le h1 HGM.out.size) (HUB.out b hb)).trans ((HGM.out.block b h1 (by simp)).trans (HPR.out b hb))
            · exact (HK4.out.1.block _ (Nat.lt_of_lt_of_le hpl HGM.out.size) HUS.out).trans ((HGM.out.block _ hpl (by simp)).trans HSG.out)
          case measure => simp [intOf]; omega)
    · obtain rfl : Ds.length = i := by omega
      obtain ⟨Q, hQ⟩ : ∃ Q, Q = Ds.flatMap (pickI p s M) := ⟨_, rfl⟩
      have hQl : Q.length ≤ 511 := by
        have h1 := flat_len (p := p) (M := M) (Ds := Ds) fun E hE => ⟨_, (HT.out.each E hE).1⟩
        rw [← hQ] at h1; omega
      have how2 := HOW.out
      rw [List.take_length, ← hQ] at how2
      have hxs : xs.length = nv := by have := HO.out.1; omega
      have HGF : Hid (w.grownBy wr (Value.slice a0 nv cap0).ownBlock) := grownBy.trans0 HGA.out.none HHK.out.1
      have HOW2 := hide how2
      obtain ⟨L, hL⟩ : ∃ L, L = Q.length := ⟨_, rfl⟩
      obtain ⟨n', hn'⟩ : ∃ n', n' = nv + L := ⟨_, rfl⟩
      have hnI : (nv : Int) ≤ (n' : Int) := by omega
      have hnN : nv ≤ n' := by omega
      have hnL : n' - nv = L := by omega
      obtain ⟨ua, ucap, hu, huc, hua⟩ : ∃ (ua : Option Addr) (ucap : Nat), u2 = .slice ua n' ucap ∧ n' ≤ ucap ∧ (0 < L → ∃ hb, ua = some ⟨hb, 0, none⟩) := by
        rcases how2.2 with ⟨h1, h2⟩ | ⟨hb, cap, cur, h1, _, _, h3, _⟩
        · exact ⟨none, 0, by rw [h1, hn', hL, h2], by omega, fun h => by omega⟩
        · exact ⟨_, cap, by rw [hn', hL]; exact h1, by omega, fun _ => ⟨hb, rfl⟩⟩
      have HUA := hide hua
      have HQ := hide hQ
      clear how2 hua hQ
      subst hu
      have hucI : (n' : Int) ≤ (ucap : Int) := by omega
      rw [← hL] at HOW2
      rw [← hn'] at HOW2
      have HLE := hide hL
      have HNE := hide hn'
      clear hL hn'
      by_cases hL0 : L = 0
      · have hQ0 : Q = [] := List.eq_nil_of_length_eq_zero (by rw [← HLE.out]; exact hL0)
        have HQ0 := hide hQ0
        clear hQ0
        have HFIN : Hid (wr.ownsRow base 3 1 (.slice ua n' ucap) (nv + (Ds.flatMap (pickI p s M)).length) (xs ++ ((Ds.flatMap (pickI p s M)).mergeSort fun x y => decide (x ≤ y)).map (Value.int .i64))) := by
          have h1 := HOW2.out
          show World.ownsRow _ _ _ _ _ _ _
          rw [← HQ.out, ← HLE.out, ← HNE.out]
          rw [HQ0.out] at h1 ⊢
          simpa using h1
        by_cases hcn : ucap = nv
        · subst hcn
          go_wp2_with fail
          all_goals (
            refine (sort13_none _ _ wr).mono ?_
            rintro _ W5 ⟨rfl, hw5⟩
            obtain rfl := hw5.symm
            clear hw5
            go_wp2_with fail
            go_ret
            exact ⟨_, rfl, HFIN.out, HGF.out⟩)
        · go_wp2_with fail
          all_goals (
            refine (sort13_none _ _ wr).mono ?_
            rintro _ W5 ⟨rfl, hw5⟩
            obtain rfl := hw5.symm
            clear hw5
            go_wp2_with fail
            go_ret
            exact ⟨.slice ua n' ucap, rfl, HFIN.out, HGF.out⟩)
      · obtain ⟨hb, rfl⟩ := HUA.out (by omega)
        have hif : (if ucap = nv then some (⟨hb, 0, none⟩ : Addr) else some ⟨hb, nv, none⟩) = some ⟨hb, nv, none⟩ := if_neg (by have := HNE.out; omega)
        have hs := sort13 hb base nv ucap (ucap - nv) xs Q wr (by rw [← HLE.out, ← HNE.out]; exact HOW2.out) hxs (by omega)
        rw [← HLE.out, ← HNE.out] at hs
        go_wp2_with fail
        refine hs.mono ?_
        rintro _ W5 ⟨rfl, hown5, hg5⟩
        have HFIN : Hid (W5.ownsRow base 3 1 (.slice (some ⟨hb, 0, none⟩) n' ucap) (nv + (Ds.flatMap (pickI p s M)).length) (xs ++ ((Ds.flatMap (pickI p s M)).mergeSort fun x y => decide (x ≤ y)).map (Value.int .i64))) := by
          show World.ownsRow _ _ _ _ _ _ _
          rw [← HQ.out, ← HLE.out, ← HNE.out]
          exact hown5
        have HGF5 : Hid (w.grownBy W5 (Value.slice a0 nv cap0).ownBlock) := grownBy.trans0 HGA.out.none (HHK.out.trans (show HK wr (.slice (some ⟨hb, 0, none⟩) n' ucap) W5 (.slice (some ⟨hb, 0, none⟩) n' ucap) from ⟨hg5, .inl rfl⟩)).1
        clear hown5 hg5 hs
        go_wp2_with fail
        go_ret
        exact ⟨.slice (some ⟨hb, 0, none⟩) n' ucap, rfl, HFIN.out, HGF5.out⟩
end Go.Proofs.Ybulkdcs
