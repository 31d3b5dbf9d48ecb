import Derived.Test.YbulkdcsSearch
import Derived.Test.YbulkdcsReach
namespace Go.Proofs.Ybulkdcs
open Go.Shelf Go.RowKit Go.Lib Go.Sort
set_option linter.unusedVariables false
set_option linter.unusedSimpArgs false

theorem GrX.cell {bl : Nat} {a b : World} (h : GrX bl a b) {p : Addr} {v : Value} (hv : a.cell? p = some v) (hne : p.block ≠ bl) : b.cell? p = some v := by
  have e := h.gb.block p.block (World.block_lt_of_cell? _ _ hv) (by intro e; cases e; exact hne rfl)
  rw [World.cell?_of_block e]; exact hv
theorem PosRow.grx {w w' : World} {b bl : Nat} {S : List Int} (h : PosRow w b S) (g : GrX bl w w') (hne : b ≠ bl) : PosRow w' b S := fun i hi => ⟨g.cell (h i hi).1 hne, g.cell (h i hi).2 hne⟩

/-- A row of cells, some of them written. -/
def Upd (C C' : Array Value) (co n : Nat) (f : Nat → Int) : Prop := C'.size = C.size ∧ ∀ j, C'[j]? = if co ≤ j ∧ j < co + n then some (.int .i32 (f (j - co))) else C[j]?
theorem Upd.refl (C : Array Value) (co : Nat) (f : Nat → Int) : Upd C C co 0 f := ⟨rfl, fun j => by rw [if_neg (by omega)]⟩
theorem Upd.step {C C' : Array Value} {co n : Nat} {f : Nat → Int} (h : Upd C C' co n f) (hs : co + n < C.size) {x : Int} (hx : x = f n) : Upd C (C'.setIfInBounds (co + n) (.int .i32 x)) co (n + 1) f := by
  obtain ⟨h1, h2⟩ := h
  refine ⟨by simpa using h1, fun j => ?_⟩
  rw [Array.getElem?_setIfInBounds]
  by_cases hj : co + n = j
  · subst hj
    rw [if_pos rfl, if_pos (by omega), if_pos (by omega)]
    simp [hx]
  · rw [if_neg hj, h2 j]
    by_cases hk : co ≤ j ∧ j < co + n
    · rw [if_pos hk, if_pos (by omega)]
    · rw [if_neg hk, if_neg (by omega)]

/-- A coordinate. -/
def crd (S : Nat → List Int) (z : Nat → Int) (i : Nat) : Int :=
  if i % 2 = 0 then ((S i).countP fun q => decide (cmpI q (z i) < 0) : Nat) else ((S i).length : Int) - ((S i).countP fun q => decide (endCmp q (z i) < 0) : Nat)

theorem mono_lt {S : List Int} (hs : ∀ a c, a ≤ c → c < S.length → S.getD a 0 ≤ S.getD c 0) (z : Int) (a c : Nat) (hac : a ≤ c) (hc : c < S.length) (h : decide (cmpI (S.getD c 0) z < 0) = true) : decide (cmpI (S.getD a 0) z < 0) = true := by
  have hle := hs a c hac hc
  have h2 : cmpI (S.getD c 0) z < 0 := of_decide_eq_true h
  refine decide_eq_true ?_
  clear h
  unfold cmpI at *
  split at h2
  · rw [if_pos (by omega)]; omega
  · split at h2 <;> omega
theorem mono_le {S : List Int} (hs : ∀ a c, a ≤ c → c < S.length → S.getD a 0 ≤ S.getD c 0) (z : Int) (a c : Nat) (hac : a ≤ c) (hc : c < S.length) (h : decide (endCmp (S.getD c 0) z < 0) = true) : decide (endCmp (S.getD a 0) z < 0) = true := by
  have hle := hs a c hac hc
  have h2 : endCmp (S.getD c 0) z < 0 := of_decide_eq_true h
  refine decide_eq_true ?_
  clear h
  unfold endCmp at *
  split at h2
  · rw [if_pos (by omega)]; omega
  · omega

set_option maxHeartbeats 8000000 in
set_option maxRecDepth 100000 in
theorem coord_any (bg og bl cb co wd capc n : Nat) (pb pc : Nat → Nat) (S : Nat → List Int) (z : Nat → Int) (C : Array Value) (w : World) (hwd : wd ≤ 4) (hn : n ≤ 512)
    (hg : ∀ i, i < wd → w.cell? ⟨bg, og + 2 + i, none⟩ = some (.slice (some ⟨pb i, 0, none⟩) n (pc i)))
    (hS : ∀ i, i < wd → (S i).length = n) (hR : ∀ i, i < wd → PosRow w (pb i) (S i)) (hsort : ∀ i, i < wd → ∀ a c, a ≤ c → c < (S i).length → (S i).getD a 0 ≤ (S i).getD c 0)
    (hz : ∀ i, i < wd → w.cell? ⟨bl, 1 + i * 2, none⟩ = some (.int .u64 (z i / 18446744073709551616)) ∧ w.cell? ⟨bl, 1 + i * 2 + 1, none⟩ = some (.int .u64 (z i % 18446744073709551616)))
    (hC : w.heap[cb]? = some (.cells C 21 (0, 0))) (hco : co + wd ≤ C.size) (n1 : bg ≠ cb) (n2 : bl ≠ cb) (n3 : ∀ i, i < wd → pb i ≠ cb) (ca : Option Addr) (hca : 0 < wd → ca = some ⟨cb, co, none⟩) :
    Calls Yba.prog 11 #[.pointer (some ⟨bg, og, none⟩), .pointer (some ⟨bl, 0, none⟩), .slice ca wd capc] w fun e w' => e = .returned (.tuple #[]) ∧
      (∃ C', w'.heap[cb]? = some (.cells C' 21 (0, 0)) ∧ Upd C C' co wd (crd S z)) ∧ GrX cb w w' := by
  have HG := hide hg
  have HS := hide hS
  have HR := hide hR
  have HO := hide hsort
  have HZ := hide hz
  have HC := hide hC
  have HCA := hide hca
  have hclt : cb < w.heap.size := (Array.getElem?_eq_some_iff.1 hC).1
  clear hg hS hR hsort hz hC hca
  go_enter Yba.func11, Yba.ntmps11
  go_wp2_with fail
  go_loopw [15] (fun s15 wr => ∃ (k : Nat) (Ck : Array Value), k ≤ wd ∧ s15 = .int .i64 k ∧ wr.heap[cb]? = some (.cells Ck 21 (0, 0)) ∧ Upd C Ck co k (crd S z) ∧ GrX cb w wr) (fun s15 _ => wd - (intOf s15).toNat)
  case atStart => exact ⟨0, C, by omega, rfl, HC.out, Upd.refl _ _ _, GrX.of_gr (Gr.refl _)⟩
  case round =>
    obtain ⟨k, Ck, hk, rfl, hck, hup, hgx⟩ := hrel
    have HCK := hide hck
    have HUP := hide hup
    have HGX := hide hgx
    clear hck hup hgx
    by_cases hlt : k < wd
    · obtain rfl := HCA.out (by omega)
      have g1 := HGX.out.cell (HG.out k hlt) n1
      have z1 := HGX.out.cell (HZ.out k hlt).1 n2
      have z2 := HGX.out.cell (HZ.out k hlt).2 n2
      have hbg : bg < wr.heap.size := World.block_lt_of_cell? _ _ g1
      have hbl : bl < wr.heap.size := World.block_lt_of_cell? _ _ z1
      have hk4 : (k : Int) < 4 := by omega
      have hkw : (k : Int) < (wd : Int) := by omega
      have HR2 := hide ((HR.out k hlt).grx HGX.out (n3 k hlt))
      have HS2 := hide (HS.out k hlt)
      by_cases hpar : k % 2 = 0
      · have hp : ((k : Int) % 2 == 0) = true := by simp; omega
        have HCR : Hid (((((S k).countP fun q => decide (cmpI q (z k) < 0) : Nat) : Int)) = crd S z k) := by show _ = _; rw [crd, if_pos hpar]
        go_wp2_with fail
        go_region
        have hWe : ∃ W1 : World, W1 = (wr.alloc (.cells #[.int .u64 (z k / 18446744073709551616), .int .u64 (z k % 18446744073709551616)] 59)).drew := ⟨_, rfl⟩
        obtain ⟨W1, hW1⟩ := hWe
        have G1 : Gr wr W1 := by rw [hW1]; exact ((Gr.refl _).alloc _).drew
        have t1 : W1.cell? ⟨wr.heap.size, 0, none⟩ = some (.int .u64 (z k / 18446744073709551616)) := by rw [hW1]; simp
        have t2 : W1.cell? ⟨wr.heap.size, 1, none⟩ = some (.int .u64 (z k % 18446744073709551616)) := by rw [hW1]; simp
        have HG1 := hide G1
        rw [← hW1]
        clear hW1 G1
        go_wp2_with fail
        refine (show Calls Yba.prog 20 #[.slice (some ⟨pb k, 0, none⟩) n (pc k), .agg #[.int .u64 (z k / 18446744073709551616), .int .u64 (z k % 18446744073709551616)], .func (.func 15) #[] #[]] W1 _ from (by have := search_15 (pb k) (pc k) (S k) (z k) W1 (by rw [HS.out k hlt]; exact hn) (HR2.out.gr HG1.out) (fun a c => mono_lt (HO.out k hlt) (z k) a c); rw [HS.out k hlt] at this; exact this)).mono ?_
        rintro _ W2 ⟨⟨fb, rfl⟩, hG2⟩
        have HG2 := hide hG2
        clear hG2
        have hlow : ((S k).countP fun q => decide (cmpI q (z k) < 0)) ≤ n := by rw [← HS.out k hlt]; exact List.countP_le_length
        generalize ((S k).countP fun q => decide (cmpI q (z k) < 0)) = cnt at *
        have HB : Hid (W2.heap[cb]? = some (.cells Ck 21 (0, 0))) := (HG1.out.trans HG2.out).block HCK.out
        have hlc : co + k < Ck.size := by have := HUP.out.1; omega
        have f1 : W2.cell? ⟨cb, co + k, none⟩ = some Ck[co + k] := by simp [World.cell?, HB.out, hlc]
        have f2 : W2.frozen? ⟨cb, co + k, none⟩ = false := by simp [World.frozen?, HB.out]
        generalize Ck[co + k] = vk at f1
        have hcn : (cnt : Int) ≤ (n : Int) := by omega
        have hn9 : (n : Int) ≤ 512 := by omega
        go_wp2_with fail
        go_roundw
        case rel =>
          refine ⟨k + 1, Ck.setIfInBounds (co + k) (.int .i32 (cnt : Int)), by omega, by go_num, ?_, HUP.out.step (by omega) HCR.out, ?_⟩
          · exact set_block HB.out _
          · exact (HGX.out.trans (GrX.of_gr (HG1.out.trans HG2.out))).trans (GrX.set _ _ _)
        case measure => simp [intOf]; omega
      · have hp : ((k : Int) % 2 == 0) = false := by simp; omega
        have HCR : Hid ((n : Int) - ((((S k).countP fun q => decide (endCmp q (z k) < 0) : Nat) : Int)) = crd S z k) := by show _ = _; rw [crd, if_neg hpar, HS.out k hlt]
        go_wp2_with fail
        go_region
        have hWe : ∃ W1 : World, W1 = (wr.alloc (.cells #[.int .u64 (z k / 18446744073709551616), .int .u64 (z k % 18446744073709551616)] 59)).drew := ⟨_, rfl⟩
        obtain ⟨W1, hW1⟩ := hWe
        have G1 : Gr wr W1 := by rw [hW1]; exact ((Gr.refl _).alloc _).drew
        have t1 : W1.cell? ⟨wr.heap.size, 0, none⟩ = some (.int .u64 (z k / 18446744073709551616)) := by rw [hW1]; simp
        have t2 : W1.cell? ⟨wr.heap.size, 1, none⟩ = some (.int .u64 (z k % 18446744073709551616)) := by rw [hW1]; simp
        have HG1 := hide G1
        rw [← hW1]
        clear hW1 G1
        go_wp2_with fail
        refine (show Calls Yba.prog 20 #[.slice (some ⟨pb k, 0, none⟩) n (pc k), .agg #[.int .u64 (z k / 18446744073709551616), .int .u64 (z k % 18446744073709551616)], .func (.func 21) #[] #[]] W1 _ from (by have := search_21 (pb k) (pc k) (S k) (z k) W1 (by rw [HS.out k hlt]; exact hn) (HR2.out.gr HG1.out) (fun a c => mono_le (HO.out k hlt) (z k) a c); rw [HS.out k hlt] at this; exact this)).mono ?_
        rintro _ W2 ⟨⟨fb, rfl⟩, hG2⟩
        have HG2 := hide hG2
        clear hG2
        have hlow : ((S k).countP fun q => decide (endCmp q (z k) < 0)) ≤ n := by rw [← HS.out k hlt]; exact List.countP_le_length
        generalize ((S k).countP fun q => decide (endCmp q (z k) < 0)) = cnt at *
        have HB : Hid (W2.heap[cb]? = some (.cells Ck 21 (0, 0))) := (HG1.out.trans HG2.out).block HCK.out
        have hlc : co + k < Ck.size := by have := HUP.out.1; omega
        have f1 : W2.cell? ⟨cb, co + k, none⟩ = some Ck[co + k] := by simp [World.cell?, HB.out, hlc]
        have f2 : W2.frozen? ⟨cb, co + k, none⟩ = false := by simp [World.frozen?, HB.out]
        generalize Ck[co + k] = vk at f1
        have hcn : (cnt : Int) ≤ (n : Int) := by omega
        have hn9 : (n : Int) ≤ 512 := by omega
        go_wp2_with fail
        go_roundw
        case rel =>
          refine ⟨k + 1, Ck.setIfInBounds (co + k) (.int .i32 ((n : Int) - cnt)), by omega, by go_num, ?_, HUP.out.step (by omega) HCR.out, ?_⟩
          · exact set_block HB.out _
          · exact (HGX.out.trans (GrX.of_gr (HG1.out.trans HG2.out))).trans (GrX.set _ _ _)
        case measure => simp [intOf]; omega
    · obtain rfl : k = wd := by omega
      go_wp2_with fail
      go_end0
      exact ⟨rfl, ⟨Ck, HCK.out, HUP.out⟩, HGX.out⟩
end Go.Proofs.Ybulkdcs
