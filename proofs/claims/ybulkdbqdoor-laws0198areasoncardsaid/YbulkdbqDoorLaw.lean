import Derived.Test.YbulkdbqDoorArgs
namespace Go.Proofs.YbulkdbqDoor
open Go.Shelf Go.RowKit Go.Lib Go.Sort
set_option linter.unusedVariables false
set_option linter.unusedSimpArgs false

set_option maxHeartbeats 4000000 in
set_option maxRecDepth 100000 in
theorem law_long (c m : Int) (a1 : Option Addr) (len1 cap1 : Nat) (a2 : Option Addr) (len2 cap2 : Nat) (old : Int) (msg : ByteArray) (w : World) (h : 1024 < len1 ∨ 1024 < len2) (hm1 : len1 ≤ maxLen) (hm2 : len2 ≤ maxLen) :
    Calls Ybad.prog 3 #[.int .i64 c, .int .i64 m, .slice a1 len1 cap1, .slice a2 len2 cap2, .int .u8 old, .string msg] w fun e w' => e = .returned (.bool true) ∧ RowKit.Below w.heap.size w w' := by
  unfold maxLen at hm1 hm2
  by_cases h1 : 1024 < len1
  · go_enter Ybad.func3, Ybad.ntmps3
    go_wp2_with fail
    go_ret
    exact ⟨rfl, RowKit.Below.refl _ _⟩
  · have h2 : 1024 < len2 := by omega
    go_enter Ybad.func3, Ybad.ntmps3
    go_wp2_with fail
    go_ret
    exact ⟨rfl, RowKit.Below.refl _ _⟩

/-- '&application{..}' as the law lays it. -/
def appO (c m l : Int) (msg : ByteArray) : Obj :=
  Obj.cells #[.string ⟨#[]⟩, .string ⟨#[]⟩, .string ⟨#[]⟩, .int .u64 0, .int .i64 0, .pointer none, .int .u64 0, .int .i64 0, .pointer none, .int .i64 c, .int .i64 m, .int .i64 0, .pointer none, .pointer none, .string ⟨#[]⟩,
    .bool false, .int .i64 0, .string ⟨#[]⟩, .slice none 0 0, .int .i64 0, .int .i64 0, .bool false, .int .i64 0, .int .i64 0, .int .i64 0, .bool false, .int .i64 0, .pointer none, .slice none 0 0, .int .i64 l, .string msg] 43

theorem app_new (w : World) (c m l : Int) (msg : ByteArray) : App (w.alloc (appO c m l msg)) w.heap.size c m l msg := by
  unfold appO
  constructor <;> simp

/-- All that the law needs of the world once the application and the rooms are laid. -/
structure Laid (w W : World) (lo : Nat) (v : Value) (r : List (Int × Int)) (c m l : Int) (msg : ByteArray) : Prop where
  tab : Tab W
  app : App W w.heap.size c m l msg
  dr : Dr W lo v r
  lo : w.heap.size < lo
  bel : RowKit.Below w.heap.size w W

theorem Laid.below {w W W' : World} {lo : Nat} {v : Value} {r : List (Int × Int)} {c m l : Int} {msg : ByteArray} (h : Laid w W lo v r c m l msg) (hb : RowKit.Below W.heap.size W W') : Laid w W' lo v r c m l msg :=
  ⟨h.tab.below hb, h.app.below hb, h.dr.below hb, h.lo, h.bel.trans (hb.mono h.bel.size)⟩

theorem Laid.grown {w W W' : World} {lo : Nat} {v : Value} {r : List (Int × Int)} {c m l l' : Int} {msg msg' : ByteArray} (h : Laid w W lo v r c m l msg) (hT : Tab w) (hg : W.grownBy W' (some w.heap.size)) (hA : App W' w.heap.size c m l' msg') : Laid w W' lo v r c m l' msg' :=
  ⟨h.tab.grown hg hT.pos, hA, h.dr.grown hg h.lo, h.lo, h.bel.grown hg h.bel.size (fun k hk => by cases hk; exact Nat.le_refl _)⟩

theorem Laid.unplaced {w W : World} {lo : Nat} {v : Value} {r : List (Int × Int)} {c m l : Int} {msg : ByteArray} (h : Laid w W lo v r c m l msg) (hT : Tab w) (fo : Option Addr) (flen fcap : Nat) (L : Int) (M : ByteArray)
    (hc0 : -9223372036854775808 ≤ c) (hc1 : c ≤ 9223372036854775807) (hm0 : -9223372036854775808 ≤ m) (hm1 : m ≤ 9223372036854775807)
    (hf : flen ≤ 1024) (hn : r.length ≤ 1024) (hp : r.Pairwise (fun a b => b.1 ≤ a.1 ∧ a.2 < b.2)) (hL : newLack flen (Plain.holdsL r (c, m)) = L) (hM : newMsg L l c m msg = M) :
    Calls Ybad.prog 7 #[.pointer (some ⟨w.heap.size, 0, none⟩), .slice fo flen fcap, v] W fun e w' => e = .returned (.string M) ∧ Laid w w' lo v r c m L M :=
  (unplaced_to w.heap.size lo fo flen fcap v r c m l msg L M W hc0 hc1 hm0 hm1 hf hn hp hL hM h.tab h.app h.dr).mono fun e w' ⟨he, hA, hg⟩ => ⟨he, h.grown hT hg hA⟩

theorem laid_start {w w1 w2 w3 : World} {v : Value} {r : List (Int × Int)} {c m l : Int} {msg : ByteArray} (hT : Tab w) (hB1 : RowKit.Below (w.alloc (appO c m l msg)).heap.size (w.alloc (appO c m l msg)) w1)
    (hB2 : RowKit.Below w1.heap.size w1 w2) (hB3 : RowKit.Below w1.heap.size w2 w3) (hD : Dr w3 w2.heap.size v r) : Laid w w3 w2.heap.size v r c m l msg := by
  have b0 : RowKit.Below w.heap.size w (w.alloc (appO c m l msg)) := (RowKit.Below.refl _ _).alloc (Nat.le_refl _) _
  have hs1 := hB1.size
  have hs2 := hB2.size
  have e0 : (w.alloc (appO c m l msg)).heap.size = w.heap.size + 1 := by simp
  have b13 : RowKit.Below w1.heap.size w1 w3 := hB2.trans hB3
  have b1 : RowKit.Below w.heap.size w w1 := b0.trans (hB1.mono (by omega))
  exact ⟨(hT.below b1).below b13, ((app_new w c m l msg).below hB1).below b13, hD, by omega, b1.trans (b13.mono (by omega))⟩

set_option maxHeartbeats 4000000 in
set_option maxRecDepth 100000 in
theorem law_zero (c m : Int) (a1 : Option Addr) (cap1 : Nat) (z1 : List (Int × Int)) (a2 : Option Addr) (len2 cap2 : Nat) (z2 : List (Int × Int)) (old : Int) (msg : ByteArray) (w : World)
    (hc0 : -9223372036854775808 ≤ c) (hc1 : c ≤ 9223372036854775807) (hm0 : -9223372036854775808 ≤ m) (hm1 : m ≤ 9223372036854775807) (ho0 : 0 ≤ old) (ho1 : old ≤ 255)
    (hl2 : len2 ≤ 1024) (hz1 : IsPairs w a1 0 cap1 z1) (hz2 : IsPairs w a2 len2 cap2 z2) (hT : Tab w) :
    Calls Ybad.prog 3 #[.int .i64 c, .int .i64 m, .slice a1 0 cap1, .slice a2 len2 cap2, .int .u8 old, .string msg] w fun e w' => e = .returned (.bool true) ∧ RowKit.Below w.heap.size w w' := by
  have HZ1 := hide hz1
  have HZ2 := hide hz2
  have HT := hide hT
  clear hz1 hz2 hT
  have b0 : ∀ O, RowKit.Below w.heap.size w (w.alloc O) := fun O => (RowKit.Below.refl _ _).alloc (Nat.le_refl _) _
  have hq0 : 0 ≤ old % 4 := by omega
  have hq1 : old % 4 < 4 := by omega
  by_cases hl : (1 : Int) = old % 4
  · have hl' : ((1 : Int) != old % 4) = false := by simpa using hl
    have HM : Hid (newMsg 1 (old % 4) c m msg = msg) := if_pos hl
    clear hl
    go_enter Ybad.func3, Ybad.ntmps3
    go_wp2_with fail
    refine (sizes_args a1 0 cap1 z1 _ (by omega) (HZ1.out.below (b0 _))).mono ?_
    rintro e w1 ⟨f', fc, rfl, -, hB1⟩
    change RowKit.Below (w.alloc (appO c m (old % 4) msg)).heap.size (w.alloc (appO c m (old % 4) msg)) w1 at hB1
    have HB1 := hide hB1
    have hBw1 : RowKit.Below w.heap.size w w1 := (b0 _).trans (hB1.mono (by simp))
    have HBw1 := hide hBw1
    clear hB1 hBw1
    go_wp2_with fail
    refine (sizes_args a2 len2 cap2 z2 _ hl2 (HZ2.out.below HBw1.out)).mono ?_
    rintro e w2 ⟨d', dc, rfl, hOwn, hB2⟩
    have HO := hide hOwn
    have HB2 := hide hB2
    clear hOwn hB2
    go_wp2_with fail
    refine (roomOf_args w1.heap.size d' len2 dc z2 _ hl2 HZ2.out.2.1 HB2.out.size HO.out).mono ?_
    rintro e w3 ⟨v, r, rfl, hD, hrl, hpw, hlaw, hB3⟩
    have HL := hide (laid_start (c := c) (m := m) HT.out HB1.out HB2.out hB3 hD)
    have HP := hide hpw
    clear hD hpw hlaw hB3
    go_wp2_with fail
    have HL1 := hide (HL.out.below ((RowKit.Below.refl _ _).alloc (Nat.le_refl _) (.cells #[.int .i64 c, .int .i64 m] 49)))
    refine (HL1.out.unplaced HT.out f' 0 fc 1 msg hc0 hc1 hm0 hm1 (by omega) hrl HP.out rfl HM.out).mono ?_
    rintro e w4 ⟨rfl, hL4⟩
    have HL4 := hide hL4
    obtain ⟨-, -, q3, q4, -, -⟩ := hL4.app
    clear hL4
    go_wp2_with fail
    refine (HL4.out.unplaced HT.out f' 0 fc 1 msg hc0 hc1 hm0 hm1 (by omega) hrl HP.out rfl (if_pos rfl)).mono ?_
    rintro e w5 ⟨rfl, hL5⟩
    have HL5 := hide hL5
    clear q3 q4
    obtain ⟨-, -, q3, q4, -, -⟩ := hL5.app
    clear hL5
    go_wp2_with fail
    go_ret
    exact ⟨rfl, HL5.out.bel⟩
  · have hl' : ((1 : Int) != old % 4) = true := by simpa using hl
    have HM : Hid (newMsg 1 (old % 4) c m msg = ⟨#[110, 111, 32, 119, 111, 114, 107, 101, 114, 32, 105, 115, 32, 65, 76, 73, 86, 69]⟩) := if_neg hl
    clear hl
    go_enter Ybad.func3, Ybad.ntmps3
    go_wp2_with fail
    refine (sizes_args a1 0 cap1 z1 _ (by omega) (HZ1.out.below (b0 _))).mono ?_
    rintro e w1 ⟨f', fc, rfl, -, hB1⟩
    change RowKit.Below (w.alloc (appO c m (old % 4) msg)).heap.size (w.alloc (appO c m (old % 4) msg)) w1 at hB1
    have HB1 := hide hB1
    have hBw1 : RowKit.Below w.heap.size w w1 := (b0 _).trans (hB1.mono (by simp))
    have HBw1 := hide hBw1
    clear hB1 hBw1
    go_wp2_with fail
    refine (sizes_args a2 len2 cap2 z2 _ hl2 (HZ2.out.below HBw1.out)).mono ?_
    rintro e w2 ⟨d', dc, rfl, hOwn, hB2⟩
    have HO := hide hOwn
    have HB2 := hide hB2
    clear hOwn hB2
    go_wp2_with fail
    refine (roomOf_args w1.heap.size d' len2 dc z2 _ hl2 HZ2.out.2.1 HB2.out.size HO.out).mono ?_
    rintro e w3 ⟨v, r, rfl, hD, hrl, hpw, hlaw, hB3⟩
    have HL := hide (laid_start (c := c) (m := m) HT.out HB1.out HB2.out hB3 hD)
    have HP := hide hpw
    clear hD hpw hlaw hB3
    go_wp2_with fail
    have HL1 := hide (HL.out.below ((RowKit.Below.refl _ _).alloc (Nat.le_refl _) (.cells #[.int .i64 c, .int .i64 m] 49)))
    refine (message_any 1 c m _ (by decide) hc0 hc1 hm0 hm1 HL1.out.tab).mono ?_
    rintro e w3b ⟨he, hB3b⟩
    have he' : e = .returned (.string ⟨#[110, 111, 32, 119, 111, 114, 107, 101, 114, 32, 105, 115, 32, 65, 76, 73, 86, 69]⟩) := he
    subst he'
    have HL2 := hide (HL1.out.below hB3b)
    clear hB3b
    go_wp2_with fail
    refine (HL2.out.unplaced HT.out f' 0 fc 1 _ hc0 hc1 hm0 hm1 (by omega) hrl HP.out rfl HM.out).mono ?_
    rintro e w4 ⟨rfl, hL4⟩
    have HL4 := hide hL4
    obtain ⟨-, -, q3, q4, -, -⟩ := hL4.app
    clear hL4
    go_wp2_with fail
    refine (HL4.out.unplaced HT.out f' 0 fc 1 _ hc0 hc1 hm0 hm1 (by omega) hrl HP.out rfl (if_pos rfl)).mono ?_
    rintro e w5 ⟨rfl, hL5⟩
    have HL5 := hide hL5
    clear q3 q4
    obtain ⟨-, -, q3, q4, -, -⟩ := hL5.app
    clear hL5
    go_wp2_with fail
    go_ret
    exact ⟨rfl, HL5.out.bel⟩
end Go.Proofs.YbulkdbqDoor
