import Derived.Test.YbulkdbqDoorStr
namespace Go.Proofs.YbulkdbqDoor
open Go.Shelf Go.RowKit Go.Lib Go.Sort
set_option linter.unusedVariables false
set_option linter.unusedSimpArgs false

def noneAliveB : ByteArray := ⟨#[110, 111, 32, 119, 111, 114, 107, 101, 114, 32, 105, 115, 32, 65, 76, 73, 86, 69]⟩
def largeB : ByteArray := ⟨#[110, 111, 32, 65, 76, 73, 86, 69, 32, 119, 111, 114, 107, 101, 114, 32, 105, 115, 32, 108, 97, 114, 103, 101, 32, 101, 110, 111, 117, 103, 104, 32, 102, 111, 114, 32, 97, 110, 32, 105, 110, 115, 116, 97, 110, 99, 101, 32, 111, 102, 32]⟩
def everyBB : ByteArray := ⟨#[101, 118, 101, 114, 121, 32, 65, 76, 73, 86, 69, 32, 119, 111, 114, 107, 101, 114, 32, 108, 97, 114, 103, 101, 32, 101, 110, 111, 117, 103, 104, 32, 102, 111, 114, 32, 97, 110, 32, 105, 110, 115, 116, 97, 110, 99, 101, 32, 111, 102, 32]⟩
def busyB : ByteArray := ⟨#[32, 105, 115, 32, 98, 117, 115, 121]⟩

/-- What lack.message says. -/
def msgB (l c m : Int) : ByteArray := if l = 1 then noneAliveB else if l = 2 then largeB ++ sizeB c m else everyBB ++ sizeB c m ++ busyB

theorem sizeB_size (c m : Int) (hc0 : -9223372036854775808 ≤ c) (hc1 : c ≤ 9223372036854775807) (hm0 : -9223372036854775808 ≤ m) (hm1 : m ≤ 9223372036854775807) : (sizeB c m).size ≤ 56 := by
  have h1 := pluralB_size c hc0 hc1
  have h2 := itB_size m hm0 hm1
  unfold sizeB
  simp only [ByteArray.size_append]
  have e1 : (ByteArray.mk #[32, 97, 110, 100, 32]).size = 5 := rfl
  have e3 : (ByteArray.mk #[32, 77, 66]).size = 3 := rfl
  omega

set_option maxHeartbeats 1000000 in
theorem message_any (l c m : Int) (w : World) (hl : l = 1 ∨ l = 2 ∨ l = 3) (hc0 : -9223372036854775808 ≤ c) (hc1 : c ≤ 9223372036854775807) (hm0 : -9223372036854775808 ≤ m) (hm1 : m ≤ 9223372036854775807) (hT : Tab w) :
    Calls Ybad.prog 6 #[.int .i64 l, .agg #[.int .i64 c, .int .i64 m]] w fun e w' => e = .returned (.string (msgB l c m)) ∧ RowKit.Below w.heap.size w w' := by
  have hs := sizeB_size c m hc0 hc1 hm0 hm1
  have hcon : ∀ W, RowKit.Below w.heap.size w W → Calls Ybad.prog 10 #[.agg #[.int .i64 c, .int .i64 m]] W fun e w' => e = .returned (.string (sizeB c m)) ∧ RowKit.Below W.heap.size W w' := fun W hW => string_any c m W hc0 hc1 hm0 hm1 (hT.below hW)
  have HC := hide hcon
  clear hcon hT
  unfold msgB
  rcases hl with rfl | rfl | rfl
  · go_enter Ybad.func6, Ybad.ntmps6
    go_wp2_with fail
    go_ret
    exact ⟨rfl, (RowKit.Below.refl _ _).alloc (Nat.le_refl _) _⟩
  · rw [if_neg (by decide), if_pos rfl]
    generalize sizeB c m = s at *
    go_enter Ybad.func6, Ybad.ntmps6
    go_wp2_with (go_at_call 10; refine (HC.out _ ?_).mono ?_; exact (RowKit.Below.refl _ _).alloc (Nat.le_refl _) _; rintro e w1 ⟨rfl, hB1⟩)
    go_ret
    exact ⟨rfl, ((RowKit.Below.refl _ _).alloc (Nat.le_refl _) _).trans (hB1.mono (by simp))⟩
  · rw [if_neg (by decide), if_neg (by decide)]
    generalize sizeB c m = s at *
    go_enter Ybad.func6, Ybad.ntmps6
    go_wp2_with (go_at_call 10; refine (HC.out _ ?_).mono ?_; exact (RowKit.Below.refl _ _).alloc (Nat.le_refl _) _; rintro e w1 ⟨rfl, hB1⟩)
    go_ret
    exact ⟨rfl, ((RowKit.Below.refl _ _).alloc (Nat.le_refl _) _).trans (hB1.mono (by simp))⟩
end Go.Proofs.YbulkdbqDoor
