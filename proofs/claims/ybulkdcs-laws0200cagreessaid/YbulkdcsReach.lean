import Derived.Test.YbulkdcsPlace2
namespace Go.Proofs.Ybulkdcs
open Go.Shelf Go.RowKit Go.Lib Go.Sort
set_option linter.unusedVariables false
set_option linter.unusedSimpArgs false

theorem ret_bool {a b : Bool} (h : a = b) : Ending.returned (.bool a) = .returned (.bool b) := by rw [h]

/-- What reaches asks of the first n coordinates. -/
def reachN (n : Nat) (C L : Nat → Int) : Bool := (List.range n).all fun i => decide (L i ≤ C i)
theorem reachN_succ (n : Nat) (C L : Nat → Int) : reachN (n + 1) C L = (reachN n C L && decide (L n ≤ C n)) := by simp [reachN, List.range_succ]
theorem reachN_false {n k : Nat} {C L : Nat → Int} (hk : k < n) (h : C k < L k) : reachN n C L = false := by
  simp only [reachN, Bool.eq_false_iff, ne_eq, List.all_eq_true, List.mem_range]
  intro hall
  have := hall k hk
  simp at this
  omega

set_option maxHeartbeats 2000000 in
theorem reaches_any (ac al : Option Addr) (bc oc lenc capc bl ol n capl : Nat) (C L : Nat → Int) (w : World) (hn : n ≤ 4) (hlen : n ≤ lenc) (hlc : lenc ≤ 100000)
    (hac : 0 < n → ac = some ⟨bc, oc, none⟩) (hal : 0 < n → al = some ⟨bl, ol, none⟩)
    (hC : ∀ i, i < n → w.cell? ⟨bc, oc + i, none⟩ = some (.int .i32 (C i))) (hL : ∀ i, i < n → w.cell? ⟨bl, ol + i, none⟩ = some (.int .i32 (L i))) :
    Calls Yba.prog 23 #[.slice ac lenc capc, .slice al n capl] w fun e w' => e = .returned (.bool (reachN n C L)) ∧ w' = w := by
  have HC := hide hC
  have HL := hide hL
  have HAC := hide hac
  have HAL := hide hal
  clear hC hL hac hal
  go_enter Yba.func23, Yba.ntmps23
  go_wp2
  go_loop [9, 5, 6] (fun i s5 s6 => ∃ k : Nat, k ≤ n ∧ i = .int .i64 k ∧ reachN k C L = true) (fun i _ _ => n - (intOf i).toNat)
  case atStart => exact ⟨0, by omega, rfl, rfl⟩
  case round =>
    obtain ⟨k, hk, rfl, hr⟩ := hrel
    have HR := hide hr
    clear hr
    by_cases hlt : k < n
    · obtain rfl := HAC.out (by omega)
      obtain rfl := HAL.out (by omega)
      have c1 := HC.out k hlt
      have c2 := HL.out k hlt
      have HS := hide (reachN_succ k C L)
      have HF := hide (fun h => reachN_false (C := C) (L := L) hlt h)
      have hkc : (k : Int) < (lenc : Int) := by omega
      by_cases hc : C k < L k
      · go_wp2
        go_ret
        exact ⟨ret_bool (HF.out hc).symm, rfl⟩
      · go_wp2
        go_round
        case rel => exact ⟨k + 1, by omega, by go_num, by rw [HS.out, HR.out]; simp; omega⟩
        case measure => simp [intOf]; omega
    · obtain rfl : k = n := by omega
      go_wp2
      go_ret
      exact ⟨ret_bool HR.out.symm, rfl⟩

/-- The cells of a kindTree. -/
structure TreeV where
  k : Int
  wd : Nat
  P : Nat → Value
  S : Value
  A : Value
  B : Value
def TreeV.arr (g : TreeV) : Array Value := #[.int .u8 g.k, .int .i64 g.wd, g.P 0, g.P 1, g.P 2, g.P 3, g.S, g.A, g.B]
/-- .. in memory. -/
structure TreeAt (w : World) (b o : Nat) (g : TreeV) : Prop where
  c0 : w.cell? ⟨b, o, none⟩ = some (.int .u8 g.k)
  c1 : w.cell? ⟨b, o + 1, none⟩ = some (.int .i64 g.wd)
  cP : ∀ i, i < 4 → w.cell? ⟨b, o + 2 + i, none⟩ = some (g.P i)
  c6 : w.cell? ⟨b, o + 6, none⟩ = some g.S
  c7 : w.cell? ⟨b, o + 7, none⟩ = some g.A
  c8 : w.cell? ⟨b, o + 8, none⟩ = some g.B
theorem TreeAt.gr {w w' : World} {b o : Nat} {g : TreeV} (h : TreeAt w b o g) (hg : Gr w w') : TreeAt w' b o g := ⟨hg.cell h.c0, hg.cell h.c1, fun i hi => hg.cell (h.cP i hi), hg.cell h.c6, hg.cell h.c7, hg.cell h.c8⟩

set_option maxHeartbeats 4000000 in
theorem box_2 (b o bb nb node : Nat) (w : World) (h1 : w.cell? ⟨b, o + 1, none⟩ = some (.int .i64 2)) (h8 : w.cell? ⟨b, o + 8, none⟩ = some (.slice (some ⟨bb, 0, none⟩) nb nb)) (hn : node ≤ 1000) (hnb : (2 * node + 2) * 2 ≤ nb) (hb : nb ≤ 100000) :
    Calls Yba.prog 22 #[.pointer (some ⟨b, o, none⟩), .int .i64 node] w fun e w' =>
      e = .returned (.tuple #[.slice (some ⟨bb, 2 * node * 2, none⟩) 2 (nb - 2 * node * 2), .slice (some ⟨bb, (2 * node + 1) * 2, none⟩) 2 (nb - (2 * node + 1) * 2)]) ∧ Gr w w' := by
  go_enter Yba.func22, Yba.ntmps22
  go_wp2
  go_quiet (fail)
  go_wp2
  go_ret2
  refine ⟨?_, (Gr.refl _).drewN _⟩
  show Ending.returned (.tuple #[.slice (some ⟨bb, 2 * node * 2, none⟩) ((2 * node + 1) * 2 - 2 * node * 2) (nb - 2 * node * 2), .slice (some ⟨bb, (2 * node + 1) * 2, none⟩) ((2 * node + 2) * 2 - (2 * node + 1) * 2) (nb - (2 * node + 1) * 2)]) = _
  rw [show (2 * node + 1) * 2 - 2 * node * 2 = 2 by omega, show (2 * node + 2) * 2 - (2 * node + 1) * 2 = 2 by omega]

set_option maxHeartbeats 4000000 in
theorem box_4 (b o bb nb node : Nat) (w : World) (h1 : w.cell? ⟨b, o + 1, none⟩ = some (.int .i64 4)) (h8 : w.cell? ⟨b, o + 8, none⟩ = some (.slice (some ⟨bb, 0, none⟩) nb nb)) (hn : node ≤ 1000) (hnb : (2 * node + 2) * 4 ≤ nb) (hb : nb ≤ 100000) :
    Calls Yba.prog 22 #[.pointer (some ⟨b, o, none⟩), .int .i64 node] w fun e w' =>
      e = .returned (.tuple #[.slice (some ⟨bb, 2 * node * 4, none⟩) 4 (nb - 2 * node * 4), .slice (some ⟨bb, (2 * node + 1) * 4, none⟩) 4 (nb - (2 * node + 1) * 4)]) ∧ Gr w w' := by
  go_enter Yba.func22, Yba.ntmps22
  go_wp2
  go_quiet (fail)
  go_wp2
  go_ret2
  refine ⟨?_, (Gr.refl _).drewN _⟩
  show Ending.returned (.tuple #[.slice (some ⟨bb, 2 * node * 4, none⟩) ((2 * node + 1) * 4 - 2 * node * 4) (nb - 2 * node * 4), .slice (some ⟨bb, (2 * node + 1) * 4, none⟩) ((2 * node + 2) * 4 - (2 * node + 1) * 4) (nb - (2 * node + 1) * 4)]) = _
  rw [show (2 * node + 1) * 4 - 2 * node * 4 = 4 by omega, show (2 * node + 2) * 4 - (2 * node + 1) * 4 = 4 by omega]

set_option maxHeartbeats 4000000 in
theorem box_0 (b o bb : Nat) (w : World) (h1 : w.cell? ⟨b, o + 1, none⟩ = some (.int .i64 0)) (h8 : w.cell? ⟨b, o + 8, none⟩ = some (.slice (some ⟨bb, 0, none⟩) 0 0)) :
    Calls Yba.prog 22 #[.pointer (some ⟨b, o, none⟩), .int .i64 0] w fun e w' =>
      e = .returned (.tuple #[.slice (some ⟨bb, 0, none⟩) 0 0, .slice (some ⟨bb, 0, none⟩) 0 0]) ∧ Gr w w' := by
  go_enter Yba.func22, Yba.ntmps22
  go_wp2
  go_quiet (fail)
  go_wp2
  go_ret2
  exact ⟨rfl, (Gr.refl _).drewN _⟩
end Go.Proofs.Ybulkdcs
