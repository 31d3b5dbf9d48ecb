import Derived.Test.YbulkdbqDoorLaw
namespace Go.Proofs.YbulkdbqDoor
open Go.Shelf Go.RowKit Go.Lib Go.Sort
set_option linter.unusedVariables false
set_option linter.unusedSimpArgs false

def anyK (z : List (Int × Int)) (s : Int × Int) (k : Nat) : Bool := (z.take k).any fun d => Plain.geS d s
theorem anyK_succ (z : List (Int × Int)) (s : Int × Int) (k : Nat) (h : k < z.length) : anyK z s (k + 1) = (anyK z s k || Plain.geS (z.getD k (0, 0)) s) := by
  simp [anyK, getD_take_succ z k h]
theorem anyK_all (z : List (Int × Int)) (s : Int × Int) (k : Nat) (h : k = z.length) : anyK z s k = z.any fun d => Plain.geS d s := by
  rw [anyK, List.take_of_length_le (by omega)]

set_option maxHeartbeats 8000000 in
set_option maxRecDepth 100000 in
theorem law_pos (c m : Int) (a1 : Option Addr) (len1 cap1 : Nat) (z1 : List (Int × Int)) (a2 : Option Addr) (len2 cap2 : Nat) (z2 : List (Int × Int)) (old : Int) (msg : ByteArray) (w : World)
    (hc0 : -9223372036854775808 ≤ c) (hc1 : c ≤ 9223372036854775807) (hm0 : -9223372036854775808 ≤ m) (hm1 : m ≤ 9223372036854775807) (ho0 : 0 ≤ old) (ho1 : old ≤ 255)
    (hl0 : 0 < len1) (hl1 : len1 ≤ 1024) (hl2 : len2 ≤ 1024) (hz1 : IsPairs w a1 len1 cap1 z1) (hz2 : IsPairs w a2 len2 cap2 z2) (hT : Tab w) :
    Calls Ybad.prog 3 #[.int .i64 c, .int .i64 m, .slice a1 len1 cap1, .slice a2 len2 cap2, .int .u8 old, .string msg] w fun e w' => e = .returned (.bool true) ∧ RowKit.Below w.heap.size w w' := by
  have HZ1 := hide hz1
  have HZ2 := hide hz2
  have HT := hide hT
  clear hz1 hz2 hT
  have b0 : ∀ O, RowKit.Below w.heap.size w (w.alloc O) := fun O => (RowKit.Below.refl _ _).alloc (Nat.le_refl _) _
  have hq0 : 0 ≤ old % 4 := by omega
  have hq1 : old % 4 < 4 := by omega
  have h1e : ((len1 : Int) == 0) = false := by simp; omega
  go_enter Ybad.func3, Ybad.ntmps3
  go_wp2_with fail
  refine (sizes_args a1 len1 cap1 z1 _ (by omega) (HZ1.out.below (b0 _))).mono ?_
  rintro e w1 ⟨f', fc, rfl, -, hB1⟩
  change RowKit.Below (w.alloc (appO c m (old % 4) msg)).heap.size (w.alloc (appO c m (old % 4) msg)) w1 at hB1
  have HB1 := hide hB1
  have hBw1 : RowKit.Below w.heap.size w w1 := (b0 _).trans (hB1.mono (by simp))
  have HBw1 := hide hBw1
  clear hB1 hBw1
  go_wp2_with fail
  refine (sizes_args a2 len2 cap2 z2 _ hl2 (HZ2.out.below HBw1.out)).mono ?_
  rintro e w2 ⟨d', dc, rfl, hOwn, hB2⟩
  have HO := hide hOwn
  have HB2 := hide hB2
  clear hOwn hB2
  go_wp2_with fail
  refine (roomOf_args w1.heap.size d' len2 dc z2 _ hl2 HZ2.out.2.1 HB2.out.size HO.out).mono ?_
  rintro e w3 ⟨v, r, rfl, hD, hrl, hpw, hlaw, hB3⟩
  have HL := hide (laid_start (c := c) (m := m) HT.out HB1.out HB2.out hB3 hD)
  have HP := hide hpw
  have HW := hide (hlaw (c, m))
  clear hD hpw hlaw hB3 HB1 HBw1 HO HB2
  have HL1 := hide (HL.out.below ((RowKit.Below.refl _ _).alloc (Nat.le_refl _) (.cells #[.int .i64 c, .int .i64 m] 49)))
  have HBw := hide HL1.out.bel
  go_wp2_with fail
  go_loopw [19, 71] (fun f i wr => ∃ k : Nat, k ≤ len2 ∧ i = .int .i64 k ∧ f = .bool (anyK z2 (c, m) k) ∧ RowKit.Below (w3.heap.size + 1) (w3.alloc (.cells #[.int .i64 c, .int .i64 m] 49)) wr) (fun _ i _ => len2 - (intOf i).toNat)
  case atStart => exact ⟨0, Nat.zero_le _, rfl, rfl, RowKit.Below.refl _ _⟩
  case round =>
    obtain ⟨k, hk, rfl, rfl, hnx⟩ := hrel
    have HN := hide hnx
    have hsz := hnx.size
    simp only [World.size_alloc] at hsz
    clear hnx
    by_cases hlt : k < len2
    · obtain ⟨hzl, h32, hsh⟩ := HZ2.out
      rcases hsh with ⟨_, h0, _⟩ | ⟨x, rfl, hx⟩
      · omega
      obtain ⟨b, off, rfl, hpairs⟩ := hx (by omega)
      obtain ⟨b1, b2, b3, b4⟩ := h32 k
      have hB : RowKit.Below w.heap.size w wr := HBw.out.trans (HN.out.mono (by have := HBw.out.size; simpa using this))
      obtain ⟨c0, c1⟩ := (hpairs.below hB) k hlt
      have HS := hide (anyK_succ z2 (c, m) k (by omega))
      generalize z2.getD k (0, 0) = pr at *
      obtain ⟨p1, p2⟩ := pr
      simp only at c0 c1 b1 b2 b3 b4
      have HN1 : Hid (∀ O, RowKit.Below (w3.heap.size + 1) (w3.alloc (.cells #[.int .i64 c, .int .i64 m] 49)) (wr.alloc O)) := fun O => HN.out.alloc hsz _
      clear hB hpairs h32 hx hzl
      by_cases t1 : c ≤ p1
      · by_cases t2 : m ≤ p2
        · go_wp2_with fail
          go_roundw
          case rel => exact ⟨k + 1, by omega, by go_num, by rw [HS.out]; simp [Plain.geS, t1, t2], HN1.out _⟩
          case measure => simp [intOf]; omega
        · go_wp2_with fail
          go_roundw
          case rel => exact ⟨k + 1, by omega, by go_num, by rw [HS.out]; simp [Plain.geS, t1]; omega, HN1.out _⟩
          case measure => simp [intOf]; omega
      · go_wp2_with fail
        go_roundw
        case rel => exact ⟨k + 1, by omega, by go_num, by rw [HS.out]; simp [Plain.geS]; omega, HN1.out _⟩
        case measure => simp [intOf]; omega
    · obtain rfl : k = len2 := by omega
      have HW2 : Hid (Plain.holdsL r (c, m) = anyK z2 (c, m) k) := by show _ = _; rw [HW.out, anyK_all _ _ _ HZ2.out.1.symm]
      generalize anyK z2 (c, m) k = fits at *
      have HL2 := hide (HL1.out.below (by simpa using HN.out))
      have s0 := (HN.out.cell (p := ⟨w3.heap.size, 0, none⟩) (by simp)).trans (show _ = some (.int .i64 c) by simp)
      have s1 := (HN.out.cell (p := ⟨w3.heap.size, 1, none⟩) (by simp)).trans (show _ = some (.int .i64 m) by simp)
      obtain ⟨L, hL, hL1, hL3⟩ : ∃ L : Int, newLack len1 (Plain.holdsL r (c, m)) = L ∧ (L == 1) = false ∧ ((fits = true ∧ L = 3) ∨ (fits = false ∧ L = 2)) := by
        rw [HW2.out]
        cases fits
        · exact ⟨2, by simp [newLack]; omega, rfl, by simp⟩
        · exact ⟨3, by simp [newLack]; omega, rfl, by simp⟩
      have HLL := hide hL
      clear hL HW2 HW HN HL HL1
      by_cases hl : L = old % 4
      · have hl' : (L != old % 4) = false := by simpa using hl
        have HM : Hid (newMsg L (old % 4) c m msg = msg) := if_pos hl
        clear hl
        rcases hL3 with ⟨rfl, rfl⟩ | ⟨rfl, rfl⟩
        all_goals
          go_wp2_with fail
          refine (HL2.out.unplaced HT.out f' len1 fc _ msg hc0 hc1 hm0 hm1 (by omega) hrl HP.out HLL.out HM.out).mono ?_
          rintro e w4 ⟨rfl, hL4⟩
          have HL4 := hide hL4
          obtain ⟨-, -, q3, q4, -, -⟩ := hL4.app
          clear hL4 s0 s1
          go_wp2_with fail
          refine (HL4.out.unplaced HT.out f' len1 fc _ msg hc0 hc1 hm0 hm1 (by omega) hrl HP.out HLL.out (if_pos rfl)).mono ?_
          rintro e w5 ⟨rfl, hL5⟩
          have HL5 := hide hL5
          clear q3 q4
          obtain ⟨-, -, q3, q4, -, -⟩ := hL5.app
          clear hL5
          go_wp2_with fail
          go_ret
          exact ⟨rfl, HL5.out.bel⟩
      · have hl' : (L != old % 4) = true := by simpa using hl
        have HM : Hid (newMsg L (old % 4) c m msg = msgB L c m) := if_neg hl
        clear hl
        rcases hL3 with ⟨rfl, rfl⟩ | ⟨rfl, rfl⟩
        all_goals
          go_wp2_with fail
          refine (message_any _ c m _ (by decide) hc0 hc1 hm0 hm1 HL2.out.tab).mono ?_
          rintro e w3b ⟨rfl, hB3b⟩
          have HL3 := hide (HL2.out.below hB3b)
          clear hB3b s0 s1
          go_wp2_with fail
          refine (HL3.out.unplaced HT.out f' len1 fc _ _ hc0 hc1 hm0 hm1 (by omega) hrl HP.out HLL.out HM.out).mono ?_
          rintro e w4 ⟨rfl, hL4⟩
          have HL4 := hide hL4
          obtain ⟨-, -, q3, q4, -, -⟩ := hL4.app
          clear hL4
          go_wp2_with fail
          refine (HL4.out.unplaced HT.out f' len1 fc _ _ hc0 hc1 hm0 hm1 (by omega) hrl HP.out HLL.out (if_pos rfl)).mono ?_
          rintro e w5 ⟨rfl, hL5⟩
          have HL5 := hide hL5
          clear q3 q4
          obtain ⟨-, -, q3, q4, -, -⟩ := hL5.app
          clear hL5
          go_wp2_with fail
          go_ret
          exact ⟨rfl, HL5.out.bel⟩

theorem law_walk (c m : Int) (a1 : Option Addr) (len1 cap1 : Nat) (z1 : List (Int × Int)) (a2 : Option Addr) (len2 cap2 : Nat) (z2 : List (Int × Int)) (old : Int) (msg : ByteArray) (w : World)
    (hc0 : -9223372036854775808 ≤ c) (hc1 : c ≤ 9223372036854775807) (hm0 : -9223372036854775808 ≤ m) (hm1 : m ≤ 9223372036854775807) (ho0 : 0 ≤ old) (ho1 : old ≤ 255)
    (hx1 : len1 ≤ maxLen) (hx2 : len2 ≤ maxLen) (hz1 : IsPairs w a1 len1 cap1 z1) (hz2 : IsPairs w a2 len2 cap2 z2) (hT : Tab w) :
    Calls Ybad.prog 3 #[.int .i64 c, .int .i64 m, .slice a1 len1 cap1, .slice a2 len2 cap2, .int .u8 old, .string msg] w fun e w' => e = .returned (.bool true) ∧ RowKit.Below w.heap.size w w' := by
  by_cases h1 : 1024 < len1 ∨ 1024 < len2
  · exact law_long c m a1 len1 cap1 a2 len2 cap2 old msg w h1 hx1 hx2
  · by_cases h0 : len1 = 0
    · subst h0
      exact law_zero c m a1 cap1 z1 a2 len2 cap2 z2 old msg w hc0 hc1 hm0 hm1 ho0 ho1 (by omega) hz1 hz2 hT
    · exact law_pos c m a1 len1 cap1 z1 a2 len2 cap2 z2 old msg w hc0 hc1 hm0 hm1 ho0 ho1 (by omega) (by omega) (by omega) hz1 hz2 hT
end Go.Proofs.YbulkdbqDoor
