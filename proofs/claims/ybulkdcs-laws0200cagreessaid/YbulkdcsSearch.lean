import Derived.Test.YbulkdcsPlace2
namespace Go.Proofs.Ybulkdcs
open Go.Shelf Go.RowKit Go.Lib Go.Sort
set_option linter.unusedVariables false
set_option linter.unusedSimpArgs false

/-- A row of positions in memory. -/
def PosRow (w : World) (b : Nat) (S : List Int) : Prop :=
  ∀ i, i < S.length → w.cell? ⟨b, i * 2, none⟩ = some (.int .u64 (S.getD i 0 / 18446744073709551616)) ∧ w.cell? ⟨b, i * 2 + 1, none⟩ = some (.int .u64 (S.getD i 0 % 18446744073709551616))
theorem PosRow.gr {w w' : World} {b : Nat} {S : List Int} (h : PosRow w b S) (g : Gr w w') : PosRow w' b S := fun i hi => ⟨g.cell (h i hi).1, g.cell (h i hi).2⟩

/-- A list of which just the first i meet the test. -/
theorem count_prefix (t : Int → Bool) : ∀ (S : List Int) (i : Nat), i ≤ S.length → (∀ a, a < i → t (S.getD a 0) = true) → (∀ a, i ≤ a → a < S.length → t (S.getD a 0) = false) → S.countP t = i
  | [], i, hi, _, _ => by simp at hi; simp [hi]
  | x :: S, 0, _, _, h2 => by
    have h0 := h2 0 (by omega) (by simp)
    simp only [List.getD_cons_zero] at h0
    rw [List.countP_cons_of_neg (by simp [h0])]
    exact count_prefix t S 0 (by omega) (fun a ha => by omega) (fun a ha hl => by have := h2 (a + 1) (by omega) (by simpa using hl); simpa using this)
  | x :: S, i + 1, hi, h1, h2 => by
    have h0 := h1 0 (by omega)
    simp only [List.getD_cons_zero] at h0
    rw [List.countP_cons_of_pos h0, count_prefix t S i (by simpa using hi) (fun a ha => by have := h1 (a + 1) (by omega); simpa using this) (fun a ha hl => by have := h2 (a + 1) (by omega) (by simpa using hl); simpa using this)]

set_option maxHeartbeats 8000000 in
set_option maxRecDepth 100000 in
theorem search_15 (b cap : Nat) (S : List Int) (z : Int) (w : World) (hn : S.length ≤ 512) (hR : PosRow w b S)
    (hm : ∀ a c, a ≤ c → c < S.length → decide (cmpI (S.getD c 0) z < 0) = true → decide (cmpI (S.getD a 0) z < 0) = true) :
    Calls Yba.prog 20 #[.slice (some ⟨b, 0, none⟩) S.length cap, posV z, .func (.func 15) #[] #[]] w fun e w' => (∃ fb, e = .returned (.tuple #[.int .i64 (S.countP fun q => decide (cmpI q z < 0)), .bool fb])) ∧ Gr w w' := by
  have HR := hide hR
  have HM := hide hm
  have HP := hide (fun i h1 h2 h3 => count_prefix (fun q => decide (cmpI q z < 0)) S i h1 h2 h3)
  generalize hc : (S.countP fun q => decide (cmpI q z < 0)) = cnt at *
  generalize hlen : S.length = n at *
  have HLEN := hide hlen
  have hcon : ∀ q W, Calls Yba.prog 15 #[.agg #[.int .u64 (q / 18446744073709551616), .int .u64 (q % 18446744073709551616)], .agg #[.int .u64 (z / 18446744073709551616), .int .u64 (z % 18446744073709551616)]] W fun e w' => e = .returned (.int .i64 (cmpI q z)) ∧ ∃ q' os', w' = grow (W.drewN q') os' := fun q W => compare_any q z W
  have HCON := hide hcon
  clear hR hm hc hcon hlen
  show Calls Yba.prog 20 #[.slice (some ⟨b, 0, none⟩) n cap, .agg #[.int .u64 (z / 18446744073709551616), .int .u64 (z % 18446744073709551616)], .func (.func 15) #[] #[]] w _
  obtain ⟨W0, hW0⟩ : ∃ W0, W0 = w.alloc (.cells #[.int .u64 (z / 18446744073709551616), .int .u64 (z % 18446744073709551616)] 59) := ⟨_, rfl⟩
  have t0 : W0.cell? ⟨w.heap.size, 0, none⟩ = some (.int .u64 (z / 18446744073709551616)) := by rw [hW0]; simp
  have t1 : W0.cell? ⟨w.heap.size, 1, none⟩ = some (.int .u64 (z % 18446744073709551616)) := by rw [hW0]; simp
  have HG0 : Hid (Gr w W0) := by show Gr _ _; rw [hW0]; exact (Gr.refl _).alloc _
  have HT0 := hide t0
  have HT1 := hide t1
  have HW0 := hide hW0
  clear t0 t1 hW0
  generalize z / 18446744073709551616 = zh at *
  generalize z % 18446744073709551616 = zl at *
  go_enter Yba.func20, Yba.ntmps20
  go_wp2_with fail
  rw [← HW0.out]
  go_loopw [9, 10, 11] (fun si sj sh wr => ∃ i j : Nat, i ≤ j ∧ j ≤ n ∧ si = .int .i64 i ∧ sj = .int .i64 j ∧ (∀ a, a < i → decide (cmpI (S.getD a 0) z < 0) = true) ∧ (∀ a, j ≤ a → a < n → decide (cmpI (S.getD a 0) z < 0) = false) ∧ Gr W0 wr) (fun si sj _ _ => (intOf sj - intOf si).toNat)
  case atStart => exact ⟨0, n, by omega, by omega, rfl, rfl, fun a ha => by omega, fun a h1 h2 => by omega, Gr.refl _⟩
  case round =>
    obtain ⟨i, j, hij, hjn, rfl, rfl, hlo, hhi, hg⟩ := hrel
    have HLO := hide hlo
    have HHI := hide hhi
    have HG := hide hg
    clear hlo hhi hg
    by_cases hlt : i < j
    · obtain ⟨h, hh⟩ : ∃ h : Nat, h = (i + j) / 2 := ⟨_, rfl⟩
      have hh1 : i ≤ h := by omega
      have hh2 : h < j := by omega
      have hhz : ((i : Int) + (j : Int)) / 2 = (h : Int) := by omega
      have hhn : (h : Int) < (n : Int) := by omega
      have HHH := hide hh
      clear hh
      obtain ⟨c0, c1⟩ := ((HR.out.gr HG0.out).gr HG.out) h (by have := HLEN.out; omega)
      have hb : b < wr.heap.size := World.block_lt_of_cell? _ _ c0
      have ht : w.heap.size < wr.heap.size := World.block_lt_of_cell? _ _ (HG.out.cell HT0.out)
      have k0 := cell_grown hb c0
      have k1 := cell_grown hb c1
      have k2 := cell_grown ht (HG.out.cell HT0.out)
      have k3 := cell_grown ht (HG.out.cell HT1.out)
      have hcq := HCON.out (S.getD h 0)
      generalize hq : S.getD h 0 = q at *
      have HQ := hide hq
      have HC2 := hide hcq
      clear hq hcq c0 c1
      obtain ⟨r, hr⟩ : ∃ r, cmpI q z = r := ⟨_, rfl⟩
      have HCR := hide hr
      rw [hr] at HC2
      clear hr
      by_cases hneg : r < 0
      · go_wp2_with fail
        refine wp_region_quiet_grown (by kernel_rfl) (by kernel_rfl) ?_
        repeat (go_big_quiet_step ((go_at_call 15; refine Calls.grown_of (HC2.out _))))
        refine wpQuiet_nil ?_
        intro _ hw'
        obtain ⟨⟨nq, osq⟩, hw''⟩ := hw'
        subst hw''
        go_wp2_with fail
        go_roundw
        case rel =>
          refine ⟨h + 1, j, by omega, hjn, by go_num, rfl, ?_, HHI.out, HG.out.of_grow _ _⟩
          intro a ha
          refine HM.out a h (by omega) (by omega) ?_
          rw [HQ.out, HCR.out]; simpa using hneg
        case measure => simp [intOf]; omega
      · go_wp2_with fail
        refine wp_region_quiet_grown (by kernel_rfl) (by kernel_rfl) ?_
        repeat (go_big_quiet_step ((go_at_call 15; refine Calls.grown_of (HC2.out _))))
        refine wpQuiet_nil ?_
        intro _ hw'
        obtain ⟨⟨nq, osq⟩, hw''⟩ := hw'
        subst hw''
        go_wp2_with fail
        go_roundw
        case rel =>
          refine ⟨i, h, by omega, by omega, rfl, rfl, HLO.out, ?_, HG.out.of_grow _ _⟩
          intro a ha han
          cases hd : decide (cmpI (S.getD a 0) z < 0) with
          | false => rfl
          | true =>
            have := HM.out h a ha han hd
            rw [HQ.out, HCR.out] at this
            simp at this; omega
        case measure => simp [intOf]; omega
    · obtain rfl : i = j := by omega
      obtain rfl : cnt = i := HP.out i (by have := HLEN.out; omega) HLO.out (fun a h1 h2 => HHI.out a h1 (by have := HLEN.out; omega))
      clear HP HLO HHI
      by_cases hin : cnt < n
      · obtain ⟨c0, c1⟩ := ((HR.out.gr HG0.out).gr HG.out) cnt (by have := HLEN.out; omega)
        have hhn : (cnt : Int) < (n : Int) := by omega
        have hd : decide ((cnt : Int) < (n : Int)) = true := by simpa using hin
        have hb : b < wr.heap.size := World.block_lt_of_cell? _ _ c0
        have ht : w.heap.size < wr.heap.size := World.block_lt_of_cell? _ _ (HG.out.cell HT0.out)
        have k0 := cell_grown hb c0
        have k1 := cell_grown hb c1
        have k2 := cell_grown ht (HG.out.cell HT0.out)
        have k3 := cell_grown ht (HG.out.cell HT1.out)
        have hcq := HCON.out (S.getD cnt 0)
        generalize S.getD cnt 0 = q at *
        have HC2 := hide hcq
        clear hcq c0 c1
        generalize cmpI q z = r at *
        go_wp2_with fail
        refine wp_region_quiet_grown (by kernel_rfl) (by kernel_rfl) ?_
        repeat (go_big_quiet_step ((go_at_call 15; refine Calls.grown_of (HC2.out _))))
        refine wpQuiet_nil ?_
        intro _ hw'
        obtain ⟨⟨nq, osq⟩, hw''⟩ := hw'
        subst hw''
        go_wp2_with fail
        go_ret2
        exact ⟨⟨_, rfl⟩, HG0.out.trans (HG.out.of_grow _ _)⟩
      · obtain rfl : cnt = n := by omega
        go_wp2_with fail
        go_quiet (fail)
        go_wp2_with fail
        go_ret2
        exact ⟨⟨_, rfl⟩, HG0.out.trans (HG.out.drewN _)⟩
set_option maxHeartbeats 8000000 in
set_option maxRecDepth 100000 in
theorem search_21 (b cap : Nat) (S : List Int) (z : Int) (w : World) (hn : S.length ≤ 512) (hR : PosRow w b S)
    (hm : ∀ a c, a ≤ c → c < S.length → decide (endCmp (S.getD c 0) z < 0) = true → decide (endCmp (S.getD a 0) z < 0) = true) :
    Calls Yba.prog 20 #[.slice (some ⟨b, 0, none⟩) S.length cap, posV z, .func (.func 21) #[] #[]] w fun e w' => (∃ fb, e = .returned (.tuple #[.int .i64 (S.countP fun q => decide (endCmp q z < 0)), .bool fb])) ∧ Gr w w' := by
  have HR := hide hR
  have HM := hide hm
  have HP := hide (fun i h1 h2 h3 => count_prefix (fun q => decide (endCmp q z < 0)) S i h1 h2 h3)
  generalize hc : (S.countP fun q => decide (endCmp q z < 0)) = cnt at *
  generalize hlen : S.length = n at *
  have HLEN := hide hlen
  have hcon : ∀ q W, Calls Yba.prog 21 #[.agg #[.int .u64 (q / 18446744073709551616), .int .u64 (q % 18446744073709551616)], .agg #[.int .u64 (z / 18446744073709551616), .int .u64 (z % 18446744073709551616)]] W fun e w' => e = .returned (.int .i64 (endCmp q z)) ∧ ∃ q' os', w' = grow (W.drewN q') os' := fun q W => closure21 q z W
  have HCON := hide hcon
  clear hR hm hc hcon hlen
  show Calls Yba.prog 20 #[.slice (some ⟨b, 0, none⟩) n cap, .agg #[.int .u64 (z / 18446744073709551616), .int .u64 (z % 18446744073709551616)], .func (.func 21) #[] #[]] w _
  obtain ⟨W0, hW0⟩ : ∃ W0, W0 = w.alloc (.cells #[.int .u64 (z / 18446744073709551616), .int .u64 (z % 18446744073709551616)] 59) := ⟨_, rfl⟩
  have t0 : W0.cell? ⟨w.heap.size, 0, none⟩ = some (.int .u64 (z / 18446744073709551616)) := by rw [hW0]; simp
  have t1 : W0.cell? ⟨w.heap.size, 1, none⟩ = some (.int .u64 (z % 18446744073709551616)) := by rw [hW0]; simp
  have HG0 : Hid (Gr w W0) := by show Gr _ _; rw [hW0]; exact (Gr.refl _).alloc _
  have HT0 := hide t0
  have HT1 := hide t1
  have HW0 := hide hW0
  clear t0 t1 hW0
  generalize z / 18446744073709551616 = zh at *
  generalize z % 18446744073709551616 = zl at *
  go_enter Yba.func20, Yba.ntmps20
  go_wp2_with fail
  rw [← HW0.out]
  go_loopw [9, 10, 11] (fun si sj sh wr => ∃ i j : Nat, i ≤ j ∧ j ≤ n ∧ si = .int .i64 i ∧ sj = .int .i64 j ∧ (∀ a, a < i → decide (endCmp (S.getD a 0) z < 0) = true) ∧ (∀ a, j ≤ a → a < n → decide (endCmp (S.getD a 0) z < 0) = false) ∧ Gr W0 wr) (fun si sj _ _ => (intOf sj - intOf si).toNat)
  case atStart => exact ⟨0, n, by omega, by omega, rfl, rfl, fun a ha => by omega, fun a h1 h2 => by omega, Gr.refl _⟩
  case round =>
    obtain ⟨i, j, hij, hjn, rfl, rfl, hlo, hhi, hg⟩ := hrel
    have HLO := hide hlo
    have HHI := hide hhi
    have HG := hide hg
    clear hlo hhi hg
    by_cases hlt : i < j
    · obtain ⟨h, hh⟩ : ∃ h : Nat, h = (i + j) / 2 := ⟨_, rfl⟩
      have hh1 : i ≤ h := by omega
      have hh2 : h < j := by omega
      have hhz : ((i : Int) + (j : Int)) / 2 = (h : Int) := by omega
      have hhn : (h : Int) < (n : Int) := by omega
      have HHH := hide hh
      clear hh
      obtain ⟨c0, c1⟩ := ((HR.out.gr HG0.out).gr HG.out) h (by have := HLEN.out; omega)
      have hb : b < wr.heap.size := World.block_lt_of_cell? _ _ c0
      have ht : w.heap.size < wr.heap.size := World.block_lt_of_cell? _ _ (HG.out.cell HT0.out)
      have k0 := cell_grown hb c0
      have k1 := cell_grown hb c1
      have k2 := cell_grown ht (HG.out.cell HT0.out)
      have k3 := cell_grown ht (HG.out.cell HT1.out)
      have hcq := HCON.out (S.getD h 0)
      generalize hq : S.getD h 0 = q at *
      have HQ := hide hq
      have HC2 := hide hcq
      clear hq hcq c0 c1
      obtain ⟨r, hr⟩ : ∃ r, endCmp q z = r := ⟨_, rfl⟩
      have HCR := hide hr
      rw [hr] at HC2
      clear hr
      by_cases hneg : r < 0
      · go_wp2_with fail
        refine wp_region_quiet_grown (by kernel_rfl) (by kernel_rfl) ?_
        repeat (go_big_quiet_step ((go_at_call 21; refine Calls.grown_of (HC2.out _))))
        refine wpQuiet_nil ?_
        intro _ hw'
        obtain ⟨⟨nq, osq⟩, hw''⟩ := hw'
        subst hw''
        go_wp2_with fail
        go_roundw
        case rel =>
          refine ⟨h + 1, j, by omega, hjn, by go_num, rfl, ?_, HHI.out, HG.out.of_grow _ _⟩
          intro a ha
          refine HM.out a h (by omega) (by omega) ?_
          rw [HQ.out, HCR.out]; simpa using hneg
        case measure => simp [intOf]; omega
      · go_wp2_with fail
        refine wp_region_quiet_grown (by kernel_rfl) (by kernel_rfl) ?_
        repeat (go_big_quiet_step ((go_at_call 21; refine Calls.grown_of (HC2.out _))))
        refine wpQuiet_nil ?_
        intro _ hw'
        obtain ⟨⟨nq, osq⟩, hw''⟩ := hw'
        subst hw''
        go_wp2_with fail
        go_roundw
        case rel =>
          refine ⟨i, h, by omega, by omega, rfl, rfl, HLO.out, ?_, HG.out.of_grow _ _⟩
          intro a ha han
          cases hd : decide (endCmp (S.getD a 0) z < 0) with
          | false => rfl
          | true =>
            have := HM.out h a ha han hd
            rw [HQ.out, HCR.out] at this
            simp at this; omega
        case measure => simp [intOf]; omega
    · obtain rfl : i = j := by omega
      obtain rfl : cnt = i := HP.out i (by have := HLEN.out; omega) HLO.out (fun a h1 h2 => HHI.out a h1 (by have := HLEN.out; omega))
      clear HP HLO HHI
      by_cases hin : cnt < n
      · obtain ⟨c0, c1⟩ := ((HR.out.gr HG0.out).gr HG.out) cnt (by have := HLEN.out; omega)
        have hhn : (cnt : Int) < (n : Int) := by omega
        have hd : decide ((cnt : Int) < (n : Int)) = true := by simpa using hin
        have hb : b < wr.heap.size := World.block_lt_of_cell? _ _ c0
        have ht : w.heap.size < wr.heap.size := World.block_lt_of_cell? _ _ (HG.out.cell HT0.out)
        have k0 := cell_grown hb c0
        have k1 := cell_grown hb c1
        have k2 := cell_grown ht (HG.out.cell HT0.out)
        have k3 := cell_grown ht (HG.out.cell HT1.out)
        have hcq := HCON.out (S.getD cnt 0)
        generalize S.getD cnt 0 = q at *
        have HC2 := hide hcq
        clear hcq c0 c1
        generalize endCmp q z = r at *
        go_wp2_with fail
        refine wp_region_quiet_grown (by kernel_rfl) (by kernel_rfl) ?_
        repeat (go_big_quiet_step ((go_at_call 21; refine Calls.grown_of (HC2.out _))))
        refine wpQuiet_nil ?_
        intro _ hw'
        obtain ⟨⟨nq, osq⟩, hw''⟩ := hw'
        subst hw''
        go_wp2_with fail
        go_ret2
        exact ⟨⟨_, rfl⟩, HG0.out.trans (HG.out.of_grow _ _)⟩
      · obtain rfl : cnt = n := by omega
        go_wp2_with fail
        go_quiet (fail)
        go_wp2_with fail
        go_ret2
        exact ⟨⟨_, rfl⟩, HG0.out.trans (HG.out.drewN _)⟩
end Go.Proofs.Ybulkdcs
