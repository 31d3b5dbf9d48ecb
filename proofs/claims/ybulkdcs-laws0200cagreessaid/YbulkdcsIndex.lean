import Derived.Test.YbulkdcsIndexH
namespace Go.Proofs.Ybulkdcs
open Go.Shelf Go.RowKit Go.Lib Go.Sort
set_option linter.unusedVariables false
set_option linter.unusedSimpArgs false

set_option maxHeartbeats 8000000 in
set_option maxRecDepth 100000 in
theorem index_any (tb M : Nat) (s : Nat → Sec) (v0 v1 v3 v4 : Value) (w : World) (hM : M ≤ 512) (hok : ∀ i, i < M → (s i).ok) (hsec : ∀ i, i < M → SecAt w tb (i * 10) (s i)) :
    Calls Yba.prog 4 #[.agg #[v0, v1, .slice (some ⟨tb, 0, none⟩) M M, v3, v4]] w fun e w' => ∃ (xb : Nat) (tv : Value) (Ds : List TreeD), e = .returned (.pointer (some ⟨xb, 0, none⟩)) ∧ w'.heap[xb]? = some (.cells #[tv] 50 (0, 0)) ∧ Trees (xb + 1) s M 16 tv Ds w' ∧ w.heap.size ≤ xb ∧ Kp w w' := by
  have HOK := hide hok
  have HSEC := hide hsec
  clear hok hsec
  go_enter Yba.func4, Yba.ntmps4
  go_wp2_with fail
  obtain ⟨eb, heb⟩ : ∃ eb, eb = w.heap.size := ⟨_, rfl⟩
  obtain ⟨Wa, hWa⟩ : ∃ Wa, Wa = (w.alloc (.cells #[v0, v1, .slice (some ⟨tb, 0, none⟩) M M, v3, v4] 33)).alloc (.cells (karr fun _ => nilS) 45) := ⟨_, rfl⟩
  have e0 : (w.alloc (.cells #[v0, v1, .slice (some ⟨tb, 0, none⟩) M M, v3, v4] 33)).alloc (.cells #[.slice none 0 0, .slice none 0 0, .slice none 0 0, .slice none 0 0, .slice none 0 0, .slice none 0 0, .slice none 0 0, .slice none 0 0, .slice none 0 0, .slice none 0 0, .slice none 0 0, .slice none 0 0, .slice none 0 0, .slice none 0 0, .slice none 0 0, .slice none 0 0] 45) = Wa := hWa.symm
  rw [e0, ← heb]
  have HGA : Hid (Gr w Wa) := by show Gr _ _; rw [hWa]; exact ((Gr.refl _).alloc _).alloc _
  have HEA : Hid (Wa.heap[eb]? = some (.cells #[v0, v1, .slice (some ⟨tb, 0, none⟩) M M, v3, v4] 33 (0, 0))) := by show _ = _; rw [hWa, heb]; exact alloc_block (heap_alloc_new _ _) _
  have HKA : Hid (Wa.heap[eb + 1]? = some (.cells (karr fun _ => nilS) 45 (0, 0))) := by
    show _ = _; rw [hWa, heb]
    have := heap_alloc_new (w.alloc (.cells #[v0, v1, .slice (some ⟨tb, 0, none⟩) M M, v3, v4] 33)) (.cells (karr fun _ => nilS) 45)
    simpa using this
  have HEB := hide heb
  clear e0 hWa heb
  obtain ⟨i2, hi2, hz20, hz21, hz22⟩ := info_parts Yba.info21
  go_loopw [4] (fun s4 wx => ∃ (i : Nat) (K : Nat → Value), s4 = .int .i64 i ∧ 1 ≤ i ∧ (i = 1 ∨ i ≤ M) ∧ wx.heap[eb]? = some (.cells #[v0, v1, .slice (some ⟨tb, 0, none⟩) M M, v3, v4] 33 (0, 0)) ∧ wx.heap[eb + 1]? = some (.cells (karr K) 45 (0, 0)) ∧ Rows16 (eb + 2) s i K wx ∧ Kp w wx) (fun s4 _ => M - (intOf s4).toNat)
  case atStart => exact ⟨1, _, rfl, by omega, .inl rfl, HEA.out, HKA.out, ⟨fun k hk => World.ownsRow_nil _ _ _ _, fun k k' hk hk' hne => .inl rfl⟩, HGA.out.none⟩
  case round =>
    obtain ⟨i, K, rfl, hi1, hiM, he1, hk1, hr1, hkp⟩ := hrel
    have HE1 := hide he1
    have HK1 := hide hk1
    have HR1 := hide hr1
    have HKP := hide hkp
    clear he1 hk1 hr1 hkp
    have e2 : wr.cell? ⟨eb, 2, none⟩ = some (.slice (some ⟨tb, 0, none⟩) M M) := by simp only [World.cell?, HE1.out]; rfl
    by_cases hlt : i < M
    · have hiI : (i : Int) < (M : Int) := by omega
      obtain ⟨c, hc⟩ : ∃ c, c = kindN (s i) := ⟨_, rfl⟩
      have hc16 : c < 16 := by rw [hc]; exact kindN_lt _
      have hkd := kindOf_any tb (i * 10) (s i) wr ((HSEC.out i hlt).kp HKP.out)
      rw [kindN_eq, ← hc] at hkd
      have HC := hide hc
      clear hc
      have hcI : (c : Int) < 16 := by omega
      have kc : wr.cell? ⟨eb + 1, c, none⟩ = some (K c) := by simp only [World.cell?, HK1.out]; exact karr_get K c hc16
      have kf : wr.frozen? ⟨eb + 1, c, none⟩ = false := by simp [World.frozen?, HK1.out]
      have wi : IntKind.i32.wrap (i : Int) = i := by simp [IntKind.wrap, IntKind.bits, IntKind.signed]; omega
      have hnl : (ixs s i c).length ≤ 512 := Nat.le_trans (ixs_len _ _ _) (by omega)
      have hbs : eb + 2 ≤ wr.heap.size := (Array.getElem?_eq_some_iff.1 HK1.out).1
      go_wp2_with fail
      refine hkd.mono ?_
      rintro _ W1 ⟨rfl, hw1⟩
      obtain rfl := hw1.symm
      clear hkd hw1
      go_wp2_with (at_builtin; refine wpList_append_lies _ rfl (.tmp 24) (.tmp 27) 44 rfl (eb + 2) 21 i2 _ 1 4 Yba.underlying44 hi2 hz20 hz21 hz22 rfl (by decide) (K c) (ixs s i c).length ((ixs s i c).map fun j : Nat => .int .i32 (j : Int)) rfl ((HR1.out.own c hc16).alloc _) ⟨wr.heap.size, 0, none⟩ 1 1 [.int .i32 (i : Int)] rfl rfl (cell_one_new _ _ _) (by intro u hu; simp at hu; subst hu; rfl) (by omega) (by unfold maxLen; omega) (by omega) (by simp; omega) _ rfl ?_)
      intro g cap w1 hown hgrow hat hlt1
      have hkb : some (eb + 1) ≠ (K c).ownBlock := fun e => by have := (HR1.out.own c hc16).lt _ e.symm; omega
      have b1 : w1.heap[eb + 1]? = some (.cells (karr K) 45 (0, 0)) := (hgrow.block (eb + 1) (by simp; omega) hkb).trans (alloc_block HK1.out _)
      have heb' : some eb ≠ (K c).ownBlock := fun e => by have := (HR1.out.own c hc16).lt _ e.symm; omega
      have HE2 : Hid (w1.heap[eb]? = some (.cells #[v0, v1, .slice (some ⟨tb, 0, none⟩) M M, v3, v4] 33 (0, 0))) := (hgrow.block eb (by simp; omega) heb').trans (alloc_block HE1.out _)
      have HRN : Hid (Rows16 (eb + 2) s (i + 1) (fun k => if k = c then .slice (some ⟨g, 0, none⟩) ((ixs s i c).length + 1) cap else K k) (w1.setCell ⟨eb + 1, c, none⟩ (.slice (some ⟨g, 0, none⟩) ((ixs s i c).length + 1) cap))) := by
        have h1 := HR1.out.step (W1 := wr.alloc (.cells #[.int .i32 (i : Int)] 21)) (w1 := w1) (g := g) (cap := cap) hi1 HC.out (((Gr.refl wr).alloc _).none) hgrow hown (by simpa using hat)
        exact ⟨fun k hk => ownsRow_setCell_below (h1.own k hk) (by show eb + 1 < eb + 2; omega) _, h1.apart⟩
      have HKN : Hid (Kp w (w1.setCell ⟨eb + 1, c, none⟩ (.slice (some ⟨g, 0, none⟩) ((ixs s i c).length + 1) cap))) := by
        have h1 : Kp w (wr.alloc (.cells #[.int .i32 (i : Int)] 21)) := HKP.out.gr ((Gr.refl wr).alloc _)
        have h2 : Kp w w1 := h1.by_ hgrow (by intro x hx; have := ((HR1.out.own c hc16).lt x hx).1; rw [← HEB.out]; omega)
        exact h2.x (GrX.set (bl := eb + 1) _ _ _) (by rw [← HEB.out]; omega)
      have c1 : w1.cell? ⟨eb + 1, c, none⟩ = some (K c) := by simp only [World.cell?, b1]; exact karr_get K c hc16
      have c2 : w1.frozen? ⟨eb + 1, c, none⟩ = false := by simp [World.frozen?, b1]
      have HB1 : Hid ((w1.setCell ⟨eb + 1, c, none⟩ (.slice (some ⟨g, 0, none⟩) ((ixs s i c).length + 1) cap)).heap[eb + 1]? = some (.cells (karr fun k => if k = c then .slice (some ⟨g, 0, none⟩) ((ixs s i c).length + 1) cap else K k) 45 (0, 0))) := by
        have := set_block (o := c) b1 (.slice (some ⟨g, 0, none⟩) ((ixs s i c).length + 1) cap)
        rw [karr_set K c _ hc16] at this
        exact this
      clear b1 hown hgrow hat hlt1 hkb heb'
      go_wp2_with fail
      go_roundw
      case rel => exact ⟨i + 1, _, by go_num, by omega, .inr (by omega), set_other HE2.out (by omega), HB1.out, HRN.out, HKN.out⟩
      case measure => simp [intOf]; omega
    · have hixs : ∀ k, ixs s i k = ixs s M k := fun k => by unfold ixs; rw [show i - 1 = M - 1 by omega]
      have HR2 : Hid (Rows16 (eb + 2) s M K wr) := ⟨fun k hk => by rw [← hixs k]; exact HR1.out.own k hk, HR1.out.apart⟩
      have hbs : eb + 2 ≤ wr.heap.size := (Array.getElem?_eq_some_iff.1 HK1.out).1
      have hbs1 : eb + 1 < wr.heap.size := by omega
      clear hixs HR1
      have k0 : wr.cell? ⟨eb + 1, 0, none⟩ = some (K 0) := by simp only [World.cell?, HK1.out]; rfl
      have k1 : wr.cell? ⟨eb + 1, 1, none⟩ = some (K 1) := by simp only [World.cell?, HK1.out]; rfl
      have k2 : wr.cell? ⟨eb + 1, 2, none⟩ = some (K 2) := by simp only [World.cell?, HK1.out]; rfl
      have k3 : wr.cell? ⟨eb + 1, 3, none⟩ = some (K 3) := by simp only [World.cell?, HK1.out]; rfl
      have k4 : wr.cell? ⟨eb + 1, 4, none⟩ = some (K 4) := by simp only [World.cell?, HK1.out]; rfl
      have k5 : wr.cell? ⟨eb + 1, 5, none⟩ = some (K 5) := by simp only [World.cell?, HK1.out]; rfl
      have k6 : wr.cell? ⟨eb + 1, 6, none⟩ = some (K 6) := by simp only [World.cell?, HK1.out]; rfl
      have k7 : wr.cell? ⟨eb + 1, 7, none⟩ = some (K 7) := by simp only [World.cell?, HK1.out]; rfl
      have k8 : wr.cell? ⟨eb + 1, 8, none⟩ = some (K 8) := by simp only [World.cell?, HK1.out]; rfl
      have k9 : wr.cell? ⟨eb + 1, 9, none⟩ = some (K 9) := by simp only [World.cell?, HK1.out]; rfl
      have k10 : wr.cell? ⟨eb + 1, 10, none⟩ = some (K 10) := by simp only [World.cell?, HK1.out]; rfl
      have k11 : wr.cell? ⟨eb + 1, 11, none⟩ = some (K 11) := by simp only [World.cell?, HK1.out]; rfl
      have k12 : wr.cell? ⟨eb + 1, 12, none⟩ = some (K 12) := by simp only [World.cell?, HK1.out]; rfl
      have k13 : wr.cell? ⟨eb + 1, 13, none⟩ = some (K 13) := by simp only [World.cell?, HK1.out]; rfl
      have k14 : wr.cell? ⟨eb + 1, 14, none⟩ = some (K 14) := by simp only [World.cell?, HK1.out]; rfl
      have k15 : wr.cell? ⟨eb + 1, 15, none⟩ = some (K 15) := by simp only [World.cell?, HK1.out]; rfl
      go_wp2_with fail
      obtain ⟨xb, hxb⟩ : ∃ xb, xb = wr.heap.size := ⟨_, rfl⟩
      obtain ⟨Wb, hWb⟩ : ∃ Wb, Wb = wr.alloc (.cells #[nilS] 50) := ⟨_, rfl⟩
      have e0 : wr.alloc (.cells #[.slice none 0 0] 50) = Wb := hWb.symm
      rw [e0, ← hxb]
      have HXB : Hid (Wb.heap[xb]? = some (.cells #[nilS] 50 (0, 0))) := by show _ = _; rw [hWb, hxb]; exact heap_alloc_new _ _
      have HGB : Hid (Gr wr Wb) := by show Gr _ _; rw [hWb]; exact (Gr.refl _).alloc _
      have hsx : Wb.heap.size = xb + 1 := by rw [hWb, hxb]; simp
      have HRb := hide (HR2.out.kp HGB.out.none)
      have HEb := hide (HGB.out.block HE1.out)
      have HKb := hide (HKP.out.gr HGB.out)
      have hKlt : ∀ k, k < 16 → ∀ b, (K k).ownBlock = some b → b < xb := fun k hk b hb => by rw [hxb]; exact ((HR2.out.own k hk).lt b hb).2
      have HKLT := hide hKlt
      have hexb : eb + 1 < xb := by rw [hxb]; exact hbs1
      have HSX := hide hsx
      clear e0 hWb hsx hKlt hxb k0 k1 k2 k3 k4 k5 k6 k7 k8 k9 k10 k11 k12 k13 k14 k15 HR2 HGB e2
      go_loopw [33] (fun s33 wx => ∃ (k : Nat) (tv : Value) (Ds : List TreeD), s33 = .int .i64 k ∧ k ≤ 16 ∧ wx.heap[xb]? = some (.cells #[tv] 50 (0, 0)) ∧ Trees (xb + 1) s M k tv Ds wx ∧ Wb.grownBy wx (some xb)) (fun s33 _ => 16 - (intOf s33).toNat)
      case atStart => exact ⟨0, nilS, [], rfl, by omega, HXB.out, ⟨World.ownsRow_nil _ _ _ _, rfl, fun D hD => by cases hD⟩, ⟨rfl, rfl, rfl, Nat.le_refl _, fun _ _ _ => rfl⟩⟩
      case round =>
        obtain ⟨k, tv, Ds, rfl, hk, hx1, hT1, hgb⟩ := hrel
        have HX1 := hide hx1
        have HT1 := hide hT1
        have HG1 := hide hgb
        clear hx1 hT1 hgb
        by_cases hlt : k < 16
        · have hkI : (k : Int) < 16 := by omega
          have hidx := fun W => idx45 K k hlt W
          by_cases hn : ixs s M k = []
          · obtain ⟨a, cap, hKk⟩ : ∃ a cap, K k = .slice a (0 : Nat) cap := by
              have h1 := HRb.out.own k hlt
              rw [hn] at h1
              rcases h1.2 with ⟨h2, _⟩ | ⟨g, cap, cur, h2, _⟩
              · exact ⟨_, _, h2⟩
              · exact ⟨_, _, h2⟩
            have HN := hide hn
            clear hn
            go_wp2_with fail
            exact ⟨⟨k + 1, tv, Ds, by go_num, by omega, HX1.out, HT1.out.skip HN.out, HG1.out⟩, by simp [intOf]; omega⟩
          · obtain ⟨N, hN⟩ : ∃ N, N = (ixs s M k).length := ⟨_, rfl⟩
            have hN0 : 0 < N := by rw [hN]; exact List.length_pos_iff.2 hn
            have hN5 : N ≤ 512 := by rw [hN]; have := ixs_len s M k; omega
            have hown0 := (HRb.out.own k hlt).kept HG1.out (.inr fun e => by have := HKLT.out k hlt xb e; omega)
            rw [← hN] at hown0
            obtain ⟨nb, cap, hKk, hnb1, hnb2⟩ := hown0.form hN0
            have HOWN0 := hide hown0
            have HN := hide hn
            have HNE := hide hN
            clear hn hN hown0
            have hNI : (0 : Int) < (N : Int) := by omega
            have wk : IntKind.u8.wrap (k : Int) = k := by simp [IntKind.wrap, IntKind.bits, IntKind.signed]; omega
            have hKw : Kp w wr := HKb.out.by_ HG1.out (by intro x hx; cases hx; rw [← HEB.out]; omega)
            have hKd : Kp w wr.drew := hKw.gr (Gr.refl wr).drew
            have hTab : TabM tb M nb N s (ixf s M k) wr.drew := by
              refine ⟨fun i hi => (HSEC.out i hi).kp hKd, fun j hj => ?_, fun j hj => ?_⟩
              · have h1 := World.ownsRow.cells (g := nb) HOWN0.out (by rw [hKk]; rfl) j (.int .i32 (ixf s M k j : Int)) (by
                  unfold ixf
                  rw [List.getElem?_map, List.getD_eq_getElem?_getD, List.getElem?_eq_getElem (by rw [← HNE.out]; exact hj)]
                  rfl)
                rw [Addr.add_lit, Nat.zero_add] at h1
                simpa using h1
              · unfold ixf
                rw [List.getD_eq_getElem?_getD, List.getElem?_eq_getElem (by rw [← HNE.out]; exact hj)]
                exact (ixs_mem (List.getElem_mem _)).1
            have HNT : Hid (Calls Yba.prog 8 #[.agg #[v0, v1, .slice (some ⟨tb, 0, none⟩) M M, v3, v4], .int .u8 (k : Int), .slice (some ⟨nb, 0, none⟩) N cap] wr.drew fun e w' => ∃ (D : TreeD) (y : Nat → Option Addr) (n c : Nat → Nat), e = .returned (.agg (nine k D.wd y n c)) ∧ (D.v.arr = nine k D.wd y n c ∧ D.k = (k : Int) ∧ D.m + 1 = N ∧ TreeOK s (ixf s M k) D ∧ TreeIn s (ixf s M k) D w' ∧ (∀ b, D.has b → wr.drew.heap.size ≤ b ∧ b < w'.heap.size)) ∧ Kp wr.drew w') :=
              (newTree_any tb M nb N cap s (ixf s M k) (k : Int) v0 v1 v3 v4 wr.drew hM hN5 hN0 ⟨by omega, by omega⟩ HOK.out hTab).mono fun e w' h => by
                obtain ⟨D, h1, h2, h3, h4, h5, h6, h7⟩ := h
                obtain ⟨y, n, c, h8⟩ := D.form h4.sl
                rw [h2] at h8
                exact ⟨D, y, n, c, by rw [h1, h8], ⟨h8, h2, h3, h4, h5, h6⟩, h7⟩
            have HKW := hide hKw
            clear hTab hKd hKw
            obtain ⟨i5, hi5, hz50, hz51, hz52⟩ := info_parts Yba.info54
            have x0 : wr.cell? ⟨xb, 0, none⟩ = some tv := by simp only [World.cell?, HX1.out]; rfl
            have HEr : Hid (wr.heap[eb]? = some (.cells #[v0, v1, .slice (some ⟨tb, 0, none⟩) M M, v3, v4] 33 (0, 0))) := (HG1.out.block eb (by rw [HSX.out]; omega) (by intro e; cases e; omega)).trans HEb.out
            have e0 : wr.cell? ⟨eb, 0, none⟩ = some v0 := by simp only [World.cell?, HEr.out]; rfl
            have e1 : wr.cell? ⟨eb, 1, none⟩ = some v1 := by simp only [World.cell?, HEr.out]; rfl
            have e2 : wr.cell? ⟨eb, 2, none⟩ = some (.slice (some ⟨tb, 0, none⟩) M M) := by simp only [World.cell?, HEr.out]; rfl
            have e3 : wr.cell? ⟨eb, 3, none⟩ = some v3 := by simp only [World.cell?, HEr.out]; rfl
            have e4 : wr.cell? ⟨eb, 4, none⟩ = some v4 := by simp only [World.cell?, HEr.out]; rfl
            have hDsl : Ds.length ≤ 16 := by
              have := congrArg List.length HT1.out.ks
              rw [List.length_map, List.length_map] at this
              rw [this]; unfold kinds
              exact Nat.le_trans (List.length_filter_le _ _) (by simp; omega)
            have hxl : xb < wr.heap.size := (Array.getElem?_eq_some_iff.1 HX1.out).1
            have hxo : some xb ≠ tv.ownBlock := fun e => by have := (HT1.out.own.lt xb e.symm).1; omega
            go_wp2_with fail
            go_region_law (first
              | (go_simp
                 go_at_call 8
                 refine HNT.out.mono ?_
                 rintro _ W2 ⟨D, y, n, c, rfl, hDD, hDk⟩
                 have HDD := hide hDD
                 have HDK := hide hDk
                 have y0 := hDk.cell0 (a := wr.drew) (p := ⟨xb, 0, none⟩) (v := tv) (by simpa using x0)
                 have yl : xb < W2.heap.size := World.block_lt_of_cell? _ _ y0
                 clear hDD hDk
                 unfold nine)
              | (refine step_append_lies _ rfl (.tmp 44) (.tmp 50) 48 rfl (xb + 1) 54 i5 _ 9 184 Yba.underlying48 hi5 hz50 hz51 hz52 rfl (by decide) tv Ds.length (Ds.flatMap fun D => D.v.arr.toList) rfl ((own_kp HT1.out.own.drew HDK.out).alloc _) ⟨W2.heap.size, 0, none⟩ 1 1 (nine k D.wd y n c).toList rfl rfl (World.news_of_block (heap_alloc_new W2 _)) (by intro u hu; simp [nine] at hu; rcases hu with rfl | rfl | rfl | rfl | rfl | rfl | rfl | rfl | rfl <;> rfl) (by omega) (by unfold maxLen; omega) (by omega) (by simp; omega) _ rfl ?_
                 intro g cap1 w1 hown1 hgrow1 hat1 hlt1
                 have z1 : w1.heap[xb]? = some (.cells #[tv] 50 (0, 0)) := (hgrow1.block xb (by simp; omega) hxo).trans (alloc_block (HDK.out.block0 HX1.out) _)
                 have z2 : w1.cell? ⟨xb, 0, none⟩ = some tv := by simp only [World.cell?, z1]; rfl
                 have z3 : w1.frozen? ⟨xb, 0, none⟩ = false := by simp [World.frozen?, z1]
                 have HF := hide (Trees.final HX1.out HT1.out HG1.out HSX.out hlt HN.out HDK.out HDD.out.2.1 HDD.out.2.2.2.1 HDD.out.2.2.2.2.1 (by rw [← HNE.out]; exact HDD.out.2.2.1) HDD.out.2.2.2.2.2 hgrow1 (by rw [HDD.out.1]; exact hown1) (by simpa using hat1))
                 clear z1 hown1 hgrow1 hat1 hlt1))
            all_goals clear x0 e0 e1 e2 e3 e4
            all_goals go_wp2_with fail
            all_goals exact ⟨HF.out, by simp [intOf]; omega⟩
        · obtain rfl : k = 16 := by omega
          go_wp2_with fail
          go_ret
          exact ⟨xb, tv, Ds, rfl, HX1.out, HT1.out, by rw [← HEB.out]; omega, HKb.out.by_ HG1.out (by intro x hx; cases hx; rw [← HEB.out]; omega)⟩
end Go.Proofs.Ybulkdcs
