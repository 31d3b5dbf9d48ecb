import Derived.Test.YbulkdceDoorRows
import Derived.WalkKit
import Derived.WalkSpells
import Derived.WalkSmall
import Derived.ProofKit
import Derived.OpenShut
import Derived.Below
import Derived.Laws.BitsAllLaws
namespace Go.Proofs.YbulkdceDoor
open Go.RowKit
set_option linter.unusedVariables false

/-- '(s modeSet) has(m)'. -/
def hasB (s m : Int) : Bool := (s.toNat >>> m.toNat) % 2 == 1
/-- The table's second column. -/
def comp (a : Int) : Int := [0, 30, 6, 10, 2, 0].getD a.toNat 0
def compatB (a b : Int) : Bool := hasB (comp a) b
def hb (s m a : Int) : Bool := hasB s a && !compatB a m
def noneB (s m : Int) (k : Nat) : Bool := (List.range k).all fun a => !hb s m a
def everyUpTo (s : Int) (k : Nat) : Bool := (List.range k).all fun m => !noneB s (m + 1) 6
def everyB (s : Int) : Bool := everyUpTo s 5

theorem noneB_succ (s m : Int) (k : Nat) : noneB s m (k + 1) = (noneB s m k && !hb s m k) := by
  simp [noneB, List.range_succ]
theorem everyUpTo_succ (s : Int) (k : Nat) : everyUpTo s (k + 1) = (everyUpTo s k && !noneB s (k + 1) 6) := by
  simp [everyUpTo, List.range_succ]

theorem noneB_false {s m : Int} {k n : Nat} (hk : k < n) (h : hb s m k = true) : noneB s m n = false := by
  simp only [noneB, Bool.eq_false_iff, ne_eq, List.all_eq_true, List.mem_range]
  exact fun hall => by have := hall k hk; simp [h] at this
theorem everyUpTo_false {s : Int} {k n : Nat} (hk : k < n) (h : noneB s (k + 1) 6 = true) : everyUpTo s n = false := by
  simp only [everyUpTo, Bool.eq_false_iff, ne_eq, List.all_eq_true, List.mem_range]
  exact fun hall => by have := hall k hk; simp [h] at this

/-- The law on plain numbers: 256 cases. -/
theorem law_nat : ∀ n : Nat, n < 256 → everyB n = (hasB n 0 || hasB n 5) := by decide +kernel

theorem hasB_and (s : Int) (m : Nat) (h0 : 0 ≤ s) (h1 : s ≤ 255) (hm : m < 8) : (bits .and .u8 s ((2 ^ m : Nat) : Int) != 0) = hasB s m := by
  obtain ⟨a, rfl⟩ := Int.eq_ofNat_of_zero_le h0
  have hp : 2 ^ m < 256 := by
    have : 2 ^ m ≤ 2 ^ 7 := Nat.pow_le_pow_right (by omega) (by omega)
    omega
  rw [u8_and_nat a (2 ^ m) (by omega) hp]
  have key : ∀ a : Nat, a < 256 → ∀ m : Nat, m < 8 → ((((a &&& 2 ^ m : Nat) : Int) != 0) = hasB (a : Int) (m : Int)) := by decide +kernel
  exact key a (by omega) m hm

theorem hide {p : Prop} (h : p) : Hid p := h
theorem ret_bool {a b : Bool} (h : a = b) : Ending.returned (.bool a) = .returned (.bool b) := by rw [h]

set_option maxHeartbeats 400000 in
theorem has_any (s m : Int) (w : World) (h0 : 0 ≤ s) (h1 : s ≤ 255) (hm0 : 0 ≤ m) (hm1 : m ≤ 5) :
    Calls Ybad.prog 7 #[.int .u8 s, .int .u8 m] w fun e w' => e = .returned (.bool (hasB s m)) ∧ w' = w := by
  have hm : m = 0 ∨ m = 1 ∨ m = 2 ∨ m = 3 ∨ m = 4 ∨ m = 5 := by omega
  rcases hm with rfl | rfl | rfl | rfl | rfl | rfl
  · have h := ret_bool (hasB_and s 0 h0 h1 (by omega)); go_enter Ybad.func7, Ybad.ntmps7; go_wp2; go_ret; exact ⟨h, rfl⟩
  · have h := ret_bool (hasB_and s 1 h0 h1 (by omega)); go_enter Ybad.func7, Ybad.ntmps7; go_wp2; go_ret; exact ⟨h, rfl⟩
  · have h := ret_bool (hasB_and s 2 h0 h1 (by omega)); go_enter Ybad.func7, Ybad.ntmps7; go_wp2; go_ret; exact ⟨h, rfl⟩
  · have h := ret_bool (hasB_and s 3 h0 h1 (by omega)); go_enter Ybad.func7, Ybad.ntmps7; go_wp2; go_ret; exact ⟨h, rfl⟩
  · have h := ret_bool (hasB_and s 4 h0 h1 (by omega)); go_enter Ybad.func7, Ybad.ntmps7; go_wp2; go_ret; exact ⟨h, rfl⟩
  · have h := ret_bool (hasB_and s 5 h0 h1 (by omega)); go_enter Ybad.func7, Ybad.ntmps7; go_wp2; go_ret; exact ⟨h, rfl⟩

/-- The table lies in the variable. -/
def Table (w : World) : Prop := ∀ a : Nat, a < 6 → w.cell? ⟨0, a * 5 + 1, none⟩ = some (.int .u8 (comp a))

theorem comp_bd (a : Int) (h0 : 0 ≤ a) (h1 : a ≤ 5) : 0 ≤ comp a ∧ comp a ≤ 255 := by
  have h : a = 0 ∨ a = 1 ∨ a = 2 ∨ a = 3 ∨ a = 4 ∨ a = 5 := by omega
  rcases h with rfl | rfl | rfl | rfl | rfl | rfl <;> decide

set_option maxHeartbeats 400000 in
theorem compatible_any (a b : Int) (w : World) (hT : Table w) (ha0 : 0 ≤ a) (ha1 : a ≤ 5) (hb0 : 0 ≤ b) (hb1 : b ≤ 5) :
    Calls Ybad.prog 9 #[.int .u8 a, .int .u8 b] w fun e w' => e = .returned (.bool (compatB a b)) ∧ w' = w := by
  obtain ⟨n, rfl⟩ := Int.eq_ofNat_of_zero_le ha0
  have hc := hT n (by omega)
  obtain ⟨c0, c1⟩ := comp_bd n ha0 ha1
  have hcon := has_any (comp n) b w c0 c1 hb0 hb1
  change Calls Ybad.prog 7 _ _ fun e w' => e = .returned (.bool (compatB n b)) ∧ w' = w at hcon
  generalize compatB n b = r at *
  generalize comp n = c at *
  clear hT
  go_enter Ybad.func9, Ybad.ntmps9
  go_wp2_with (go_at_call 7; refine hcon.mono ?_; rintro e w' ⟨rfl, rfl⟩)
  go_ret
  exact ⟨rfl, rfl⟩

set_option maxHeartbeats 400000 in
theorem holdsBack_any (a b : Int) (w : World) (hT : Table w) (ha0 : 0 ≤ a) (ha1 : a ≤ 5) (hb0 : 0 ≤ b) (hb1 : b ≤ 5) :
    Calls Ybad.prog 8 #[.int .u8 a, .int .u8 b] w fun e w' => e = .returned (.bool (!compatB a b)) ∧ w' = w := by
  have hcon := compatible_any a b w hT ha0 ha1 hb0 hb1
  generalize compatB a b = r at *
  clear hT
  go_enter Ybad.func8, Ybad.ntmps8
  go_wp2_with (go_at_call 9; refine hcon.mono ?_; rintro e w' ⟨rfl, rfl⟩)
  go_ret
  exact ⟨rfl, rfl⟩

set_option maxHeartbeats 1000000 in
theorem holdsBackAny_any (s m : Int) (w : World) (hT : Table w) (h0 : 0 ≤ s) (h1 : s ≤ 255) (hm0 : 0 ≤ m) (hm1 : m ≤ 5) :
    Calls Ybad.prog 6 #[.int .u8 s, .int .u8 m] w fun e w' => e = .returned (.bool (!noneB s m 6)) ∧ w' = w := by
  have hhas : ∀ k : Nat, k < 6 → Calls Ybad.prog 7 #[.int .u8 s, .int .u8 k] w fun e w' => e = .returned (.bool (hasB s k)) ∧ w' = w := fun k hk => has_any s k w h0 h1 (by omega) (by omega)
  have hhb : ∀ k : Nat, k < 6 → Calls Ybad.prog 8 #[.int .u8 k, .int .u8 m] w fun e w' => e = .returned (.bool (!compatB k m)) ∧ w' = w := fun k hk => holdsBack_any k m w hT (by omega) (by omega) hm0 hm1
  have HH := hide hhas
  have HB := hide hhb
  clear hT hhas hhb
  go_enter Ybad.func6, Ybad.ntmps6
  go_wp2
  go_loop [5, 6] (fun a i => ∃ k : Nat, k ≤ 6 ∧ i = .int .i64 k ∧ noneB s m k = true) (fun _ i => 6 - (intOf i).toNat)
  case atStart => exact ⟨0, by omega, rfl, rfl⟩
  case round =>
    obtain ⟨k, hk, rfl, hnone⟩ := hrel
    have HN := hide hnone
    clear hnone
    by_cases hlt : k < 6
    · have hc1 := HH.out k hlt
      have hc2 := HB.out k hlt
      have hsucc := noneB_succ s m k
      have hfalse : hb s m k = true → noneB s m 6 = false := noneB_false hlt
      have HS := hide hsucc
      have HF := hide hfalse
      clear hsucc hfalse
      cases e1 : hasB s k with
      | false =>
        have HE := hide e1
        rw [e1] at hc1
        clear e1 hc2
        go_wp2_with (go_at_call 7; refine hc1.mono ?_; rintro e w' ⟨rfl, rfl⟩)
        go_round
        case rel => exact ⟨k + 1, by omega, by go_num, by rw [HS.out, HN.out]; simp [hb, HE.out]⟩
        case measure => simp [intOf]; omega
      | true =>
        have HE := hide e1
        rw [e1] at hc1
        clear e1
        cases e2 : compatB k m with
        | true =>
          have HE2 := hide e2
          rw [e2] at hc2
          clear e2
          go_wp2_with (first | (go_at_call 7; refine hc1.mono ?_; rintro e w' ⟨rfl, rfl⟩) | (go_at_call 8; refine hc2.mono ?_; rintro e w' ⟨rfl, rfl⟩))
          go_round
          case rel => exact ⟨k + 1, by omega, by go_num, by rw [HS.out, HN.out]; simp [hb, HE2.out]⟩
          case measure => simp [intOf]; omega
        | false =>
          have HE2 := hide e2
          rw [e2] at hc2
          clear e2
          go_wp2_with (first | (go_at_call 7; refine hc1.mono ?_; rintro e w' ⟨rfl, rfl⟩) | (go_at_call 8; refine hc2.mono ?_; rintro e w' ⟨rfl, rfl⟩))
          go_ret
          exact ⟨ret_bool (by rw [HF.out (by simp [hb, HE.out, HE2.out])]; rfl), rfl⟩
    · obtain rfl : k = 6 := by omega
      go_wp2
      go_ret
      exact ⟨ret_bool (by rw [HN.out]; rfl), rfl⟩

set_option maxHeartbeats 1000000 in
theorem holdsBackEvery_any (s : Int) (w : World) (hT : Table w) (h0 : 0 ≤ s) (h1 : s ≤ 255) :
    Calls Ybad.prog 5 #[.int .u8 s] w fun e w' => e = .returned (.bool (everyB s)) ∧ w' = w := by
  have hany : ∀ k : Nat, k < 5 → Calls Ybad.prog 6 #[.int .u8 s, .int .u8 (k + 1)] w fun e w' => e = .returned (.bool (!noneB s (k + 1) 6)) ∧ w' = w := fun k hk => holdsBackAny_any s (k + 1) w hT h0 h1 (by omega) (by omega)
  have HA := hide hany
  clear hT hany
  go_enter Ybad.func5, Ybad.ntmps5
  go_wp2
  go_loop [3] (fun i => ∃ k : Nat, k ≤ 5 ∧ i = .int .u8 (k + 1) ∧ everyUpTo s k = true) (fun i => 6 - (intOf i).toNat)
  case atStart => exact ⟨0, by omega, rfl, rfl⟩
  case round =>
    obtain ⟨k, hk, rfl, hnone⟩ := hrel
    have HN := hide hnone
    clear hnone
    by_cases hlt : k < 5
    · have hc1 := HA.out k hlt
      have HS := hide (everyUpTo_succ s k)
      have HF := hide (fun h => everyUpTo_false (s := s) (n := 5) hlt h)
      cases e1 : noneB s (k + 1) 6 with
      | false =>
        have HE := hide e1
        rw [e1] at hc1
        clear e1
        go_wp2_with (go_at_call 6; refine hc1.mono ?_; rintro e w' ⟨rfl, rfl⟩)
        go_round
        case rel => exact ⟨k + 1, by omega, by go_num, by rw [HS.out, HN.out, HE.out]; rfl⟩
        case measure => simp [intOf]; omega
      | true =>
        have HE := hide e1
        rw [e1] at hc1
        clear e1
        go_wp2_with (go_at_call 6; refine hc1.mono ?_; rintro e w' ⟨rfl, rfl⟩)
        go_ret
        exact ⟨ret_bool (HF.out HE.out).symm, rfl⟩
    · obtain rfl : k = 5 := by omega
      go_wp2
      go_ret
      exact ⟨ret_bool HN.out.symm, rfl⟩

set_option maxHeartbeats 1000000 in
/-- THE LAW. -/
theorem exact_any (s : Int) (w : World) (hT : Table w) (h0 : 0 ≤ s) (h1 : s ≤ 255) :
    Calls Ybad.prog 3 #[.int .u8 s] w fun e w' => e = .returned (.bool true) ∧ w' = w := by
  have hcon := holdsBackEvery_any s w hT h0 h1
  have hl : everyB s = (hasB s 0 || hasB s 5) := by
    obtain ⟨n, rfl⟩ := Int.eq_ofNat_of_zero_le h0
    exact law_nat n (by omega)
  have e0 : (bits .and .u8 s 1 != 0) = hasB s 0 := hasB_and s 0 h0 h1 (by omega)
  have e5 : (bits .and .u8 s 32 != 0) = hasB s 5 := hasB_and s 5 h0 h1 (by omega)
  rw [hl] at hcon
  clear hT hl
  generalize hasB s 0 = b0 at *
  generalize hasB s 5 = b5 at *
  cases b0 <;> cases b5
  all_goals
    go_enter Ybad.func3, Ybad.ntmps3
    go_wp2_with (go_at_call 5; refine hcon.mono ?_; rintro e w' ⟨rfl, rfl⟩)
    go_ret
    exact ⟨rfl, rfl⟩
end Go.Proofs.YbulkdceDoor
