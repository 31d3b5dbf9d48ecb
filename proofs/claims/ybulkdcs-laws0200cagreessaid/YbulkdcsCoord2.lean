import Derived.Test.YbulkdcsCoord
namespace Go.Proofs.Ybulkdcs
open Go.Shelf Go.RowKit Go.Lib Go.Sort
set_option linter.unusedVariables false
set_option linter.unusedSimpArgs false

set_option maxHeartbeats 8000000 in
set_option maxRecDepth 100000 in
theorem coord_tg (tg : TypeId) (bg og bl cb co wd capc n : Nat) (pb pc : Nat → Nat) (S : Nat → List Int) (z : Nat → Int) (C : Array Value) (w : World) (hwd : wd ≤ 4) (hn : n ≤ 512)
    (hg : ∀ i, i < wd → w.cell? ⟨bg, og + 2 + i, none⟩ = some (.slice (some ⟨pb i, 0, none⟩) n (pc i)))
    (hS : ∀ i, i < wd → (S i).length = n) (hR : ∀ i, i < wd → PosRow w (pb i) (S i)) (hsort : ∀ i, i < wd → ∀ a c, a ≤ c → c < (S i).length → (S i).getD a 0 ≤ (S i).getD c 0)
    (hz : ∀ i, i < wd → w.cell? ⟨bl, 1 + i * 2, none⟩ = some (.int .u64 (z i / 18446744073709551616)) ∧ w.cell? ⟨bl, 1 + i * 2 + 1, none⟩ = some (.int .u64 (z i % 18446744073709551616)))
    (hC : w.heap[cb]? = some (.cells C tg (0, 0))) (hco : co + wd ≤ C.size) (n1 : bg ≠ cb) (n2 : bl ≠ cb) (n3 : ∀ i, i < wd → pb i ≠ cb) (ca : Option Addr) (hca : 0 < wd → ca = some ⟨cb, co, none⟩) :
    Calls Yba.prog 11 #[.pointer (some ⟨bg, og, none⟩), .pointer (some ⟨bl, 0, none⟩), .slice ca wd capc] w fun e w' => e = .returned (.tuple #[]) ∧
      (∃ C', w'.heap[cb]? = some (.cells C' tg (0, 0)) ∧ Upd C C' co wd (crd S z)) ∧ GrX cb w w' := by
  have HG := hide hg
  have HS := hide hS
  have HR := hide hR
  have HO := hide hsort
  have HZ := hide hz
  have HC := hide hC
  have HCA := hide hca
  have hclt : cb < w.heap.size := (Array.getElem?_eq_some_iff.1 hC).1
  clear hg hS hR hsort hz hC hca
  go_enter Yba.func11, Yba.ntmps11
  go_wp2_with fail
  go_loopw [15] (fun s15 wr => ∃ (k : Nat) (Ck : Array Value), k ≤ wd ∧ s15 = .int .i64 k ∧ wr.heap[cb]? = some (.cells Ck tg (0, 0)) ∧ Upd C Ck co k (crd S z) ∧ GrX cb w wr) (fun s15 _ => wd - (intOf s15).toNat)
  case atStart => exact ⟨0, C, by omega, rfl, HC.out, Upd.refl _ _ _, GrX.of_gr (Gr.refl _)⟩
  case round =>
    obtain ⟨k, Ck, hk, rfl, hck, hup, hgx⟩ := hrel
    have HCK := hide hck
    have HUP := hide hup
    have HGX := hide hgx
    clear hck hup hgx
    by_cases hlt : k < wd
    · obtain rfl := HCA.out (by omega)
      have g1 := HGX.out.cell (HG.out k hlt) n1
      have z1 := HGX.out.cell (HZ.out k hlt).1 n2
      have z2 := HGX.out.cell (HZ.out k hlt).2 n2
      have hbg : bg < wr.heap.size := World.block_lt_of_cell? _ _ g1
      have hbl : bl < wr.heap.size := World.block_lt_of_cell? _ _ z1
      have hk4 : (k : Int) < 4 := by omega
      have hkw : (k : Int) < (wd : Int) := by omega
      have HR2 := hide ((HR.out k hlt).grx HGX.out (n3 k hlt))
      have HS2 := hide (HS.out k hlt)
      by_cases hpar : k % 2 = 0
      · have hp : ((k : Int) % 2 == 0) = true := by simp; omega
        have HCR : Hid (((((S k).countP fun q => decide (cmpI q (z k) < 0) : Nat) : Int)) = crd S z k) := by show _ = _; rw [crd, if_pos hpar]
        go_wp2_with fail
        go_region
        have hWe : ∃ W1 : World, W1 = (wr.alloc (.cells #[.int .u64 (z k / 18446744073709551616), .int .u64 (z k % 18446744073709551616)] 59)).drew := ⟨_, rfl⟩
        obtain ⟨W1, hW1⟩ := hWe
        have G1 : Gr wr W1 := by rw [hW1]; exact ((Gr.refl _).alloc _).drew
        have t1 : W1.cell? ⟨wr.heap.size, 0, none⟩ = some (.int .u64 (z k / 18446744073709551616)) := by rw [hW1]; simp
        have t2 : W1.cell? ⟨wr.heap.size, 1, none⟩ = some (.int .u64 (z k % 18446744073709551616)) := by rw [hW1]; simp
        have HG1 := hide G1
        rw [← hW1]
        clear hW1 G1
        go_wp2_with fail
        refine (show Calls Yba.prog 20 #[.slice (some ⟨pb k, 0, none⟩) n (pc k), .agg #[.int .u64 (z k / 18446744073709551616), .int .u64 (z k % 18446744073709551616)], .func (.func 15) #[] #[]] W1 _ from (by have := search_15 (pb k) (pc k) (S k) (z k) W1 (by rw [HS.out k hlt]; exact hn) (HR2.out.gr HG1.out) (fun a c => mono_lt (HO.out k hlt) (z k) a c); rw [HS.out k hlt] at this; exact this)).mono ?_
        rintro _ W2 ⟨⟨fb, rfl⟩, hG2⟩
        have HG2 := hide hG2
        clear hG2
        have hlow : ((S k).countP fun q => decide (cmpI q (z k) < 0)) ≤ n := by rw [← HS.out k hlt]; exact List.countP_le_length
        generalize ((S k).countP fun q => decide (cmpI q (z k) < 0)) = cnt at *
        have HB : Hid (W2.heap[cb]? = some (.cells Ck tg (0, 0))) := (HG1.out.trans HG2.out).block HCK.out
        have hlc : co + k < Ck.size := by have := HUP.out.1; omega
        have f1 : W2.cell? ⟨cb, co + k, none⟩ = some Ck[co + k] := by simp [World.cell?, HB.out, hlc]
        have f2 : W2.frozen? ⟨cb, co + k, none⟩ = false := by simp [World.frozen?, HB.out]
        generalize Ck[co + k] = vk at f1
        have hcn : (cnt : Int) ≤ (n : Int) := by omega
        have hn9 : (n : Int) ≤ 512 := by omega
        go_wp2_with fail
        go_roundw
        case rel =>
          refine ⟨k + 1, Ck.setIfInBounds (co + k) (.int .i32 (cnt : Int)), by omega, by go_num, ?_, HUP.out.step (by omega) HCR.out, ?_⟩
          · exact set_block HB.out _
          · exact (HGX.out.trans (GrX.of_gr (HG1.out.trans HG2.out))).trans (GrX.set _ _ _)
        case measure => simp [intOf]; omega
      · have hp : ((k : Int) % 2 == 0) = false := by simp; omega
        have HCR : Hid ((n : Int) - ((((S k).countP fun q => decide (endCmp q (z k) < 0) : Nat) : Int)) = crd S z k) := by show _ = _; rw [crd, if_neg hpar, HS.out k hlt]
        go_wp2_with fail
        go_region
        have hWe : ∃ W1 : World, W1 = (wr.alloc (.cells #[.int .u64 (z k / 18446744073709551616), .int .u64 (z k % 18446744073709551616)] 59)).drew := ⟨_, rfl⟩
        obtain ⟨W1, hW1⟩ := hWe
        have G1 : Gr wr W1 := by rw [hW1]; exact ((Gr.refl _).alloc _).drew
        have t1 : W1.cell? ⟨wr.heap.size, 0, none⟩ = some (.int .u64 (z k / 18446744073709551616)) := by rw [hW1]; simp
        have t2 : W1.cell? ⟨wr.heap.size, 1, none⟩ = some (.int .u64 (z k % 18446744073709551616)) := by rw [hW1]; simp
        have HG1 := hide G1
        rw [← hW1]
        clear hW1 G1
        go_wp2_with fail
        refine (show Calls Yba.prog 20 #[.slice (some ⟨pb k, 0, none⟩) n (pc k), .agg #[.int .u64 (z k / 18446744073709551616), .int .u64 (z k % 18446744073709551616)], .func (.func 21) #[] #[]] W1 _ from (by have := search_21 (pb k) (pc k) (S k) (z k) W1 (by rw [HS.out k hlt]; exact hn) (HR2.out.gr HG1.out) (fun a c => mono_le (HO.out k hlt) (z k) a c); rw [HS.out k hlt] at this; exact this)).mono ?_
        rintro _ W2 ⟨⟨fb, rfl⟩, hG2⟩
        have HG2 := hide hG2
        clear hG2
        have hlow : ((S k).countP fun q => decide (endCmp q (z k) < 0)) ≤ n := by rw [← HS.out k hlt]; exact List.countP_le_length
        generalize ((S k).countP fun q => decide (endCmp q (z k) < 0)) = cnt at *
        have HB : Hid (W2.heap[cb]? = some (.cells Ck tg (0, 0))) := (HG1.out.trans HG2.out).block HCK.out
        have hlc : co + k < Ck.size := by have := HUP.out.1; omega
        have f1 : W2.cell? ⟨cb, co + k, none⟩ = some Ck[co + k] := by simp [World.cell?, HB.out, hlc]
        have f2 : W2.frozen? ⟨cb, co + k, none⟩ = false := by simp [World.frozen?, HB.out]
        generalize Ck[co + k] = vk at f1
        have hcn : (cnt : Int) ≤ (n : Int) := by omega
        have hn9 : (n : Int) ≤ 512 := by omega
        go_wp2_with fail
        go_roundw
        case rel =>
          refine ⟨k + 1, Ck.setIfInBounds (co + k) (.int .i32 ((n : Int) - cnt)), by omega, by go_num, ?_, HUP.out.step (by omega) HCR.out, ?_⟩
          · exact set_block HB.out _
          · exact (HGX.out.trans (GrX.of_gr (HG1.out.trans HG2.out))).trans (GrX.set _ _ _)
        case measure => simp [intOf]; omega
    · obtain rfl : k = wd := by omega
      go_wp2_with fail
      go_end0
      exact ⟨rfl, ⟨Ck, HCK.out, HUP.out⟩, HGX.out⟩
end Go.Proofs.Ybulkdcs
