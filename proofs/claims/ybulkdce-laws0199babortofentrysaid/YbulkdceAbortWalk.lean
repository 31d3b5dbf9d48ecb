import Derived.Test.YbulkdceItemWalk
import Derived.Laws.BitsAllLaws
namespace Go.Proofs.Ybulkdce
open Go.RowKit

/-- '^x' of an int32 that is not negative is negative. -/
theorem not32 (x : Int) (h0 : 0 ≤ x) (h1 : x < 2147483648) : bits BinOp.xor IntKind.i32 (if IntKind.i32.signed = true then -1 else IntKind.i32.max) x < 0 := by
  obtain ⟨a, rfl⟩ := Int.eq_ofNat_of_zero_le h0
  show IntKind.i32.wrap ((BitVec.ofInt 32 (-1) ^^^ BitVec.ofInt 32 (a : Int)).toNat : Int) < 0
  have e1 : BitVec.ofInt 32 (-1) = BitVec.allOnes 32 := by decide
  rw [e1, BitVec.allOnes_xor, BitVec.toNat_not, ofInt_u32 a (by omega)]
  simp [IntKind.wrap, IntKind.bits, IntKind.signed]
  omega

set_option maxHeartbeats 1000000 in
set_option maxRecDepth 100000 in
theorem walkAbort (a0 : Option Addr) (len0 cap0 : Nat) (z0 : List Int) (a1 : Int) (w : World) (w0 : IsRow .i64 w a0 len0 cap0 z0) (w1 : (Lit.int .u32 a1).wf = true) :
    Calls Yba.prog 4 #[.slice a0 len0 cap0, .int .u32 a1] w fun e w' => e = .returned (.bool true) ∧ Below w.heap.size w w' := by
  obtain ⟨hb0, hb1⟩ := bounds_u32 w1
  rcases w0 with ⟨rfl, rfl, rfl, rfl⟩ | ⟨x, rfl, hl, hm, hz, hcell, -⟩
  · go_enter Yba.func4, Yba.ntmps4
    go_wp2_with fail
    go_ret
    exact ⟨rfl, Below.refl _ _⟩
  unfold maxLen at hm
  by_cases h0 : len0 = 0
  · subst h0
    go_enter Yba.func4, Yba.ntmps4
    go_wp2_with fail
    go_ret
    exact ⟨rfl, Below.refl _ _⟩
  have h00 : ((len0 : Int) == 0) = false := by simpa using h0
  by_cases hlen : len0 ≤ 1024
  case neg =>
    go_enter Yba.func4, Yba.ntmps4
    go_wp2_with fail
    go_ret
    exact ⟨rfl, Below.refl _ _⟩
  have hcp := copy_any x len0 cap0 z0 w hlen (by omega) hcell
  have h3 : 0 < len0 := by omega
  obtain ⟨xb, xo, rfl, hxc⟩ := ints_at hcell (by omega)
  clear hcell
  have hk0 : 0 ≤ a1 % len0 := Int.emod_nonneg _ (by omega)
  have hk1 : a1 % len0 < len0 := Int.emod_lt_of_pos _ (by omega)
  have hnot := not32 (a1 % len0) hk0 (by omega)
  go_enter Yba.func4, Yba.ntmps4
  go_wp2_with (first | (go_at_call 5; refine hcp.mono ?_; rintro e w' ⟨rfl, hblk, hB⟩))
  obtain ⟨hxz, hcz⟩ := reads (w := w) (w' := w') hl hz h3 hk0 hk1 hxc hblk hB
  clear hcp hxc hblk hz hm
  generalize z0.getD (a1 % len0).toNat 0 = zv at *
  go_quiet ((first | (go_at_call 6; exact Calls.quiet_of_same (item_neg _ _ _ hnot)) | (go_at_call 6; exact Calls.quiet_of_same (item_pos _ _ _ w.heap.size len0 len0 zv hlen hk0 hk1 (by simp) (hcz _)))))
  go_wp2
  go_ret
  exact ⟨rfl, below_drewN (hB.alloc hB.size _) _⟩
end Go.Proofs.Ybulkdce
