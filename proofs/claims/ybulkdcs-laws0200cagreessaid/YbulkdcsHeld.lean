import Derived.Test.YbulkdcsTreeNew
namespace Go.Proofs.Ybulkdcs
open Go.Shelf Go.RowKit Go.Lib Go.Sort
set_option linter.unusedVariables false
set_option linter.unusedSimpArgs false

theorem heldP_false {wd : Nat} {x z : Nat → Int} {i : Nat} (hi : i < wd) (h : ¬ (if i % 2 = 0 then z i ≤ x i else x i ≤ z i)) : heldP wd x z = false := by
  rw [← Bool.not_eq_true]
  intro h2
  unfold heldP at h2
  rw [List.all_eq_true] at h2
  have := h2 i (List.mem_range.2 hi)
  by_cases hp : i % 2 = 0
  · rw [if_pos hp] at h this; simp at this; exact h this
  · rw [if_neg hp] at h this; simp at this; exact h this
theorem heldP_true {wd : Nat} {x z : Nat → Int} (h : ∀ i, i < wd → (if i % 2 = 0 then z i ≤ x i else x i ≤ z i)) : heldP wd x z = true := by
  unfold heldP
  rw [List.all_eq_true]
  intro i hi
  have := h i (List.mem_range.1 hi)
  by_cases hp : i % 2 = 0
  · rw [if_pos hp] at this ⊢; simpa using this
  · rw [if_neg hp] at this ⊢; simpa using this

set_option maxHeartbeats 8000000 in
set_option maxRecDepth 100000 in
theorem held_any (b o : Nat) (s : Sec) (p : Seg) (w : World) (hs : SecAt w b o s) (hok : s.ok) (hpok : p.ok) :
    Calls Yba.prog 6 #[.agg p.arr, .pointer (some ⟨b, o, none⟩)] w fun e w' => e = .returned (.bool (heldB p s)) ∧ Gr w w' := by
  have HS := hide hs
  have HOK := hide hok
  have HPOK := hide hpok
  clear hs hok hpok
  obtain ⟨k, hk⟩ : ∃ k, k = s.kind := ⟨_, rfl⟩
  have HKK := hide hk
  obtain ⟨res, hres⟩ : ∃ res, res = heldB p s := ⟨_, rfl⟩
  rw [← hres]
  have HRES := hide hres
  clear hres
  go_enter Yba.func6, Yba.ntmps6
  obtain ⟨Wa, hWa⟩ : ∃ Wa, Wa = w.alloc (segO p) := ⟨_, rfl⟩
  have ha : Wa.heap[w.heap.size]? = some (segO p) := by rw [hWa]; exact heap_alloc_new _ _
  have HGA : Hid (Gr w Wa) := by show Gr _ _; rw [hWa]; exact (Gr.refl _).alloc _
  have HSA := hide (HS.out.gr HGA.out)
  have HA := hide ha
  have hkd := kindOf_any b o s Wa HSA.out
  rw [← hk] at hkd
  clear ha hk
  go_wp2_with fail
  have e0 : w.alloc (.cells p.arr 26) = Wa := hWa.symm
  rw [e0]
  clear e0
  refine hkd.mono ?_
  rintro _ W1 ⟨rfl, hw1⟩
  obtain rfl := hw1.symm
  clear hkd hWa
  obtain ⟨c0, c1, c2, c3, c4, c5, c6, c7⟩ := seg_cells HA.out
  go_wp2_with fail
  refine (takes_any p k Wa).mono ?_
  rintro _ W2 ⟨rfl, hg2⟩
  obtain ⟨tk, htk⟩ : ∃ tk, tk = takesB p.t k := ⟨_, rfl⟩
  rw [← htk]
  have HTK := hide htk
  clear htk
  have HG2 := hide hg2
  clear hg2 c0 c1 c2 c3 c4 c5 c6 c7
  have HB2 := hide (HG2.out.block HA.out)
  cases tk with
  | false =>
    go_wp2_with fail
    go_ret
    refine ⟨?_, HGA.out.trans HG2.out⟩
    rw [HRES.out]; unfold heldB; rw [← HKK.out, ← HTK.out]; rfl
  | true =>
    obtain ⟨q1, q2, q3, q4, q5, q6, q7, q8, hpf, hpc⟩ := plArr_form (placeL s k) (by rw [placeL_len]; exact wdOf_cases k)
    obtain ⟨r1, r2, r3, r4, r5, r6, r7, r8, hrf, hrc⟩ := plArr_form (roomL p k) (by rw [roomL_len]; exact wdOf_cases k)
    have HSB := hide (HSA.out.gr HG2.out)
    have hpl := placeOf_any b o s k W2 HSB.out HOK.out
    rw [hpf] at hpl hpc
    rw [hrf] at hrc
    rw [placeL_len] at hpc hpl
    rw [roomL_len] at hrc
    obtain ⟨wd, hwd⟩ : ∃ wd, wd = wdOf k := ⟨_, rfl⟩
    have hwc : wd = 0 ∨ wd = 2 ∨ wd = 4 := by rw [hwd]; exact wdOf_cases k
    rw [← hwd] at hpc hpl hrc
    have HPC := hide hpc
    have HRC := hide hrc
    have HRF : Hid (plArr (roomL p k) = #[.int .i64 (wd : Int), .int .u64 r1, .int .u64 r2, .int .u64 r3, .int .u64 r4, .int .u64 r5, .int .u64 r6, .int .u64 r7, .int .u64 r8]) := by show _ = _; rw [hrf, roomL_len, ← hwd]
    have HWD := hide hwd
    clear hpf hpc hrf hrc hwd
    go_wp2_with fail
    refine hpl.mono ?_
    rintro _ W3 ⟨rfl, hg3⟩
    have HB3 := hide (hg3.block HB2.out)
    obtain ⟨lb, hlb⟩ : ∃ lb, lb = W3.heap.size := ⟨_, rfl⟩
    obtain ⟨PL, hPL⟩ : ∃ PL : Array Value, PL = #[.int .i64 (wd : Int), .int .u64 q1, .int .u64 q2, .int .u64 q3, .int .u64 q4, .int .u64 q5, .int .u64 q6, .int .u64 q7, .int .u64 q8] := ⟨_, rfl⟩
    obtain ⟨W4, hW4⟩ : ∃ W4, W4 = W3.alloc (.cells PL 62) := ⟨_, rfl⟩
    have e4 : W3.alloc (.cells #[.int .i64 (wd : Int), .int .u64 q1, .int .u64 q2, .int .u64 q3, .int .u64 q4, .int .u64 q5, .int .u64 q6, .int .u64 q7, .int .u64 q8] 62) = W4 := by rw [hW4, hPL]
    have HG4 : Hid (Gr W2 W4) := by show Gr _ _; rw [hW4]; exact hg3.alloc _
    have HB4 : Hid (W4.heap[w.heap.size]? = some (segO p)) := HG4.out.block HB2.out
    have HL4 : Hid (W4.heap[lb]? = some (.cells PL 62 (0, 0))) := by show _ = _; rw [hW4, hlb]; exact heap_alloc_new _ _
    obtain ⟨c0, c1, c2, c3, c4, c5, c6, c7⟩ := seg_cells HB3.out
    have sb3 : w.heap.size < W3.heap.size := (Array.getElem?_eq_some_iff.1 HB3.out).1
    have E4 := hide e4
    clear hpl hg3 e4 hW4
    have HPL := hide hPL
    rw [← hPL] at HPC
    clear hPL
    go_wp2_with fail
    rw [E4.out]
    have hrm := room_any p k W4 HPOK.out
    rw [HRF.out] at hrm
    refine hrm.mono ?_
    rintro _ W5 ⟨rfl, hg5⟩
    rw [← hlb]
    obtain ⟨rb, hrb⟩ : ∃ rb, rb = W5.heap.size := ⟨_, rfl⟩
    obtain ⟨RL, hRL⟩ : ∃ RL : Array Value, RL = #[.int .i64 (wd : Int), .int .u64 r1, .int .u64 r2, .int .u64 r3, .int .u64 r4, .int .u64 r5, .int .u64 r6, .int .u64 r7, .int .u64 r8] := ⟨_, rfl⟩
    obtain ⟨W6, hW6⟩ : ∃ W6, W6 = W5.alloc (.cells RL 62) := ⟨_, rfl⟩
    have e6 : W5.alloc (.cells #[.int .i64 (wd : Int), .int .u64 r1, .int .u64 r2, .int .u64 r3, .int .u64 r4, .int .u64 r5, .int .u64 r6, .int .u64 r7, .int .u64 r8] 62) = W6 := by rw [hW6, hRL]
    have HG6 : Hid (Gr W4 W6) := by show Gr _ _; rw [hW6]; exact hg5.alloc _
    have HL6 : Hid (W6.heap[lb]? = some (.cells PL 62 (0, 0))) := HG6.out.block HL4.out
    have HR6 : Hid (W6.heap[rb]? = some (.cells RL 62 (0, 0))) := by show _ = _; rw [hW6, hrb]; exact heap_alloc_new _ _
    have HGW : Hid (Gr w W6) := ((HGA.out.trans HG2.out).trans HG4.out).trans HG6.out
    have l5 : W5.cell? ⟨lb, 0, none⟩ = some (.int .i64 wd) := by simp only [World.cell?, hg5.block HL4.out]; rw [HPL.out]; rfl
    have lb5 : lb < W5.heap.size := (Array.getElem?_eq_some_iff.1 (hg5.block HL4.out)).1
    have HRL := hide hRL
    rw [← hRL] at HRC
    clear hRL hrm hg5 c0 c1 c2 c3 c4 c5 c6 c7 hlb
    have E6 := hide e6
    clear e6 hW6
    go_wp2_with fail
    rw [E6.out, ← hrb]
    clear l5 lb5 hrb
    go_loopw [8] (fun s8 wx => ∃ c : Nat, s8 = .int .i64 c ∧ c ≤ wd ∧ c % 2 = 0 ∧ (∀ i, i < c → (if i % 2 = 0 then (roomL p k).getD i 0 ≤ (placeL s k).getD i 0 else (placeL s k).getD i 0 ≤ (roomL p k).getD i 0)) ∧ Gr W6 wx) (fun s8 _ => wd - (intOf s8).toNat)
    case atStart => exact ⟨0, rfl, by omega, rfl, fun i hi => by omega, Gr.refl _⟩
    case round =>
      obtain ⟨c, rfl, hc, hc2, hall, hgr⟩ := hrel
      have HALL := hide hall
      have HGR := hide hgr
      clear hall hgr
      have HLr := hide (HGR.out.block HL6.out)
      have HRr := hide (HGR.out.block HR6.out)
      have l0 : wr.cell? ⟨lb, 0, none⟩ = some (.int .i64 wd) := by simp only [World.cell?, HLr.out]; rw [HPL.out]; rfl
      by_cases hlt : c < wd
      · have hcI : (c : Int) + 1 < (wd : Int) := by omega
        have hcJ : (c : Int) < 4 := by omega
        have hcK : (c : Int) + 1 < 4 := by omega
        have wc1 : IntKind.i64.wrap ((c : Int) + 1) = ((c + 1 : Nat) : Int) := by simp [IntKind.wrap, IntKind.bits, IntKind.signed]; omega
        obtain ⟨x, hx⟩ : ∃ x, x = (placeL s k).getD c 0 := ⟨_, rfl⟩
        obtain ⟨z, hz⟩ : ∃ z, z = (roomL p k).getD c 0 := ⟨_, rfl⟩
        obtain ⟨x', hx'⟩ : ∃ x, x = (placeL s k).getD (c + 1) 0 := ⟨_, rfl⟩
        obtain ⟨z', hz'⟩ : ∃ z, z = (roomL p k).getD (c + 1) 0 := ⟨_, rfl⟩
        have p1 := HPC.out c (by omega)
        have p2 := HPC.out (c + 1) (by omega)
        have r1 := HRC.out c (by omega)
        have r2 := HRC.out (c + 1) (by omega)
        rw [← hx] at p1
        rw [← hx'] at p2
        rw [← hz] at r1
        rw [← hz'] at r2
        have HX := hide hx
        have HX' := hide hx'
        have HZ := hide hz
        have HZ' := hide hz'
        clear hx hx' hz hz'
        have HC1 : Hid (∀ W, Calls Yba.prog 15 #[.agg #[.int .u64 (x / 18446744073709551616), .int .u64 (x % 18446744073709551616)], .agg #[.int .u64 (z / 18446744073709551616), .int .u64 (z % 18446744073709551616)]] W fun e w' => e = .returned (.int .i64 (cmpI x z)) ∧ ∃ q' os', w' = grow (W.drewN q') os') := fun W => compare_any x z W
        have HC2 : Hid (∀ W, Calls Yba.prog 15 #[.agg #[.int .u64 (x' / 18446744073709551616), .int .u64 (x' % 18446744073709551616)], .agg #[.int .u64 (z' / 18446744073709551616), .int .u64 (z' % 18446744073709551616)]] W fun e w' => e = .returned (.int .i64 (cmpI x' z')) ∧ ∃ q' os', w' = grow (W.drewN q') os') := fun W => compare_any x' z' W
        have HCx : Hid (x < z ↔ cmpI x z < 0) := by show _ ↔ _; unfold cmpI; split <;> (try split) <;> omega
        have HCy : Hid (z' < x' ↔ 0 < cmpI x' z') := by show _ ↔ _; unfold cmpI; split <;> (try split) <;> omega
        generalize x / 18446744073709551616 = xh at *
        generalize x % 18446744073709551616 = xl at *
        generalize z / 18446744073709551616 = zh at *
        generalize z % 18446744073709551616 = zl at *
        generalize x' / 18446744073709551616 = xh' at *
        generalize x' % 18446744073709551616 = xl' at *
        generalize z' / 18446744073709551616 = zh' at *
        generalize z' % 18446744073709551616 = zl' at *
        generalize cmpI x z = rr at *
        generalize cmpI x' z' = rr' at *
        have hlbw : lb < wr.heap.size := (Array.getElem?_eq_some_iff.1 HLr.out).1
        have hrbw : rb < wr.heap.size := (Array.getElem?_eq_some_iff.1 HRr.out).1
        have P1 : Hid (wr.cell? ⟨lb, 1 + c * 2, none⟩ = some (.int .u64 xh) ∧ wr.cell? ⟨lb, 1 + c * 2 + 1, none⟩ = some (.int .u64 xl)) := by show _ ∧ _; simp only [World.cell?, HLr.out]; exact p1
        have P2 : Hid (wr.cell? ⟨lb, 1 + (c + 1) * 2, none⟩ = some (.int .u64 xh') ∧ wr.cell? ⟨lb, 1 + (c + 1) * 2 + 1, none⟩ = some (.int .u64 xl')) := by show _ ∧ _; simp only [World.cell?, HLr.out]; exact p2
        have R1 : Hid (wr.cell? ⟨rb, 1 + c * 2, none⟩ = some (.int .u64 zh) ∧ wr.cell? ⟨rb, 1 + c * 2 + 1, none⟩ = some (.int .u64 zl)) := by show _ ∧ _; simp only [World.cell?, HRr.out]; exact r1
        have R2 : Hid (wr.cell? ⟨rb, 1 + (c + 1) * 2, none⟩ = some (.int .u64 zh') ∧ wr.cell? ⟨rb, 1 + (c + 1) * 2 + 1, none⟩ = some (.int .u64 zl')) := by show _ ∧ _; simp only [World.cell?, HRr.out]; exact r2
        clear p1 p2 r1 r2
        have k1 := cell_grown hlbw P1.out.1
        have k2 := cell_grown hlbw P1.out.2
        have k3 := cell_grown hrbw R1.out.1
        have k4 := cell_grown hrbw R1.out.2
        go_wp2_with fail
        refine wp_region_quiet_grown (by kernel_rfl) (by kernel_rfl) ?_
        repeat (go_big_quiet_step ((go_at_call 15; refine Calls.grown_of (HC1.out _))))
        refine wpQuiet_nil ?_
        intro _ hw'
        obtain ⟨⟨nq, osq⟩, hw''⟩ := hw'
        obtain ⟨W7, hW7⟩ : ∃ W7, W7 = grow (wr.drewN nq) osq := ⟨_, rfl⟩
        have HG7 : Hid (Gr wr W7) := ⟨_, _, hW7⟩
        subst hw''
        rw [← hW7]
        clear hW7 k1 k2 k3 k4
        by_cases hr : rr < 0
        · go_wp2_with fail
          go_ret
          refine ⟨?_, HGW.out.trans (HGR.out.trans HG7.out)⟩
          rw [HRES.out]; unfold heldB
          rw [← HKK.out, ← HTK.out, ← HWD.out, heldP_false (i := c) (by omega) (by rw [if_pos hc2]; rw [← HX.out, ← HZ.out]; have := HCx.out; omega)]; rfl
        · have k1 := cell_grown (Nat.lt_of_lt_of_le hlbw HG7.out.size) (HG7.out.cell P2.out.1)
          have k2 := cell_grown (Nat.lt_of_lt_of_le hlbw HG7.out.size) (HG7.out.cell P2.out.2)
          have k3 := cell_grown (Nat.lt_of_lt_of_le hrbw HG7.out.size) (HG7.out.cell R2.out.1)
          have k4 := cell_grown (Nat.lt_of_lt_of_le hrbw HG7.out.size) (HG7.out.cell R2.out.2)
          go_wp2_with fail
          refine wp_region_quiet_grown (by kernel_rfl) (by kernel_rfl) ?_
          repeat (go_big_quiet_step ((go_at_call 15; refine Calls.grown_of (HC2.out _))))
          refine wpQuiet_nil ?_
          intro _ hw'
          obtain ⟨⟨nq, osq⟩, hw''⟩ := hw'
          obtain ⟨W8, hW8⟩ : ∃ W8, W8 = grow (W7.drewN nq) osq := ⟨_, rfl⟩
          have HG8 : Hid (Gr W7 W8) := ⟨_, _, hW8⟩
          subst hw''
          rw [← hW8]
          clear hW8 k1 k2 k3 k4
          by_cases hr' : 0 < rr'
          · go_wp2_with fail
            go_ret
            refine ⟨?_, HGW.out.trans ((HGR.out.trans HG7.out).trans HG8.out)⟩
            rw [HRES.out]; unfold heldB
            rw [← HKK.out, ← HTK.out, ← HWD.out, heldP_false (i := c + 1) (by omega) (by rw [if_neg (by omega)]; rw [← HX'.out, ← HZ'.out]; have := HCy.out; omega)]; rfl
          · go_wp2_with fail
            refine ⟨⟨c + 2, by go_num, by omega, by omega, fun i hi => ?_, (HGR.out.trans HG7.out).trans HG8.out⟩, by simp [intOf]; omega⟩
            by_cases e : i < c
            · exact HALL.out i e
            · by_cases e2 : i = c
              · subst e2; rw [if_pos hc2, ← HX.out, ← HZ.out]; have := HCx.out; omega
              · obtain rfl : i = c + 1 := by omega
                rw [if_neg (by omega), ← HX'.out, ← HZ'.out]; have := HCy.out; omega
      · obtain rfl : wd = c := by omega
        go_wp2_with fail
        go_ret
        refine ⟨?_, HGW.out.trans HGR.out⟩
        rw [HRES.out]; unfold heldB; rw [← HKK.out, ← HTK.out, ← HWD.out, heldP_true HALL.out]; rfl
end Go.Proofs.Ybulkdcs
