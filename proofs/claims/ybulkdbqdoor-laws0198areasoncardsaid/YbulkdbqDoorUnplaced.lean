import Derived.Test.YbulkdbqDoorSort
namespace Go.Proofs.YbulkdbqDoor
open Go.Shelf Go.RowKit Go.Lib Go.Sort
set_option linter.unusedVariables false
set_option linter.unusedSimpArgs false

/-- The application that the law makes: the four cells that are read and written. -/
structure App (w : World) (bp : Nat) (c m l : Int) (msg : ByteArray) : Prop where
  c9 : w.cell? ⟨bp, 9, none⟩ = some (.int .i64 c)
  c10 : w.cell? ⟨bp, 10, none⟩ = some (.int .i64 m)
  cl : w.cell? ⟨bp, 29, none⟩ = some (.int .i64 l)
  cm : w.cell? ⟨bp, 30, none⟩ = some (.string msg)
  f9 : w.frozen? ⟨bp, 29, none⟩ = false
  f10 : w.frozen? ⟨bp, 30, none⟩ = false

theorem App.lt {w : World} {bp : Nat} {c m l : Int} {msg : ByteArray} (h : App w bp c m l msg) : bp < w.heap.size := World.block_lt_of_cell? _ _ h.c9
theorem App.below {w w' : World} {bp : Nat} {c m l : Int} {msg : ByteArray} (h : App w bp c m l msg) (hb : RowKit.Below w.heap.size w w') : App w' bp c m l msg :=
  ⟨(hb.cell (p := ⟨bp, 9, none⟩) h.lt).trans h.c9, (hb.cell (p := ⟨bp, 10, none⟩) h.lt).trans h.c10, (hb.cell (p := ⟨bp, 29, none⟩) h.lt).trans h.cl, (hb.cell (p := ⟨bp, 30, none⟩) h.lt).trans h.cm,
   (hb.frozen (p := ⟨bp, 29, none⟩) h.lt).trans h.f9, (hb.frozen (p := ⟨bp, 30, none⟩) h.lt).trans h.f10⟩

theorem App.set {w : World} {bp : Nat} {c m l l' : Int} {msg msg' : ByteArray} (h : App w bp c m l msg) : App ((w.setCell ⟨bp, 29, none⟩ (.int .i64 l')).setCell ⟨bp, 30, none⟩ (.string msg')) bp c m l' msg' := by
  obtain ⟨h1, h2, h3, h4, h5, h6⟩ := h
  constructor <;> go_simp

/-- What a call leaves alone: every old block but bp. -/
theorem gb_below {w w' : World} (bp : Nat) (h : RowKit.Below w.heap.size w w') : w.grownBy w' (some bp) := ⟨h.os, h.tape, h.output, h.size, fun k hk _ => h.block k hk⟩
theorem gb_trans {a b d : World} {bp : Nat} (h : a.grownBy b (some bp)) (k : b.grownBy d (some bp)) : a.grownBy d (some bp) :=
  ⟨k.os.trans h.os, k.tape.trans h.tape, k.output.trans h.output, Nat.le_trans h.size k.size, fun i hi hne => (k.block i (Nat.lt_of_lt_of_le hi h.size) hne).trans (h.block i hi hne)⟩
theorem gb_set (w : World) (bp o : Nat) (v : Value) : w.grownBy (w.setCell ⟨bp, o, none⟩ v) (some bp) :=
  ⟨rfl, rfl, rfl, by simp [World.setCell], fun k hk hne => Below.heap_setCell _ _ _ _ (by intro e; exact hne (by rw [e]))⟩

/-- A room: the nil one, or a row in memory. -/
def Dr (w : World) (lo : Nat) (v : Value) (r : List (Int × Int)) : Prop := (v = .slice none 0 0 ∧ r = []) ∨ ∃ g cap, v = .slice (some ⟨g, 0, none⟩) r.length cap ∧ lo ≤ g ∧ Row w g r

theorem Dr.below {w w' : World} {lo : Nat} {v : Value} {r : List (Int × Int)} (h : Dr w lo v r) (hb : RowKit.Below w.heap.size w w') : Dr w' lo v r := by
  rcases h with h | ⟨g, cap, hv, hlo, hR⟩
  · exact Or.inl h
  · exact Or.inr ⟨g, cap, hv, hlo, hR.below hb⟩

theorem Dr.grown {w w' : World} {lo bp : Nat} {v : Value} {r : List (Int × Int)} (h : Dr w lo v r) (hb : w.grownBy w' (some bp)) (hlo : bp < lo) : Dr w' lo v r := by
  rcases h with h | ⟨g, cap, hv, hg, hR⟩
  · exact Or.inl h
  · refine Or.inr ⟨g, cap, hv, hg, Nat.lt_of_lt_of_le hR.1 hb.size, fun i hi => ?_⟩
    have e := hb.block g hR.1 (by intro e; cases e; omega)
    exact ⟨(World.cell?_of_block (a := ⟨g, i * 2, none⟩) e).trans (hR.2 i hi).1, (World.cell?_of_block (a := ⟨g, i * 2 + 1, none⟩) e).trans (hR.2 i hi).2⟩

theorem Tab.grown {w w' : World} {bp : Nat} (h : Tab w) (hb : w.grownBy w' (some bp)) (h0 : 0 < bp) : Tab w' := by
  unfold Tab Lib.TabIs World.var? at h ⊢
  rw [gPow] at h ⊢
  simp only [Option.bind_some] at h ⊢
  have hlt : 0 < w.heap.size := by
    rcases Nat.lt_or_ge 0 w.heap.size with h' | h'
    · exact h'
    · rw [Array.getElem?_eq_none h'] at h; cases h
  rw [hb.block 0 hlt (by intro e; cases e; omega)]
  exact h
theorem Tab.pos {w : World} (h : Tab w) : 0 < w.heap.size := by
  unfold Tab Lib.TabIs World.var? at h
  rw [gPow] at h
  simp only [Option.bind_some] at h
  rcases Nat.lt_or_ge 0 w.heap.size with h' | h'
  · exact h'
  · rw [Array.getElem?_eq_none h'] at h; cases h

theorem holds_dr (lo : Nat) (v : Value) (r : List (Int × Int)) (c m : Int) (w : World) (hn : r.length ≤ 1024) (hD : Dr w lo v r) (hp : r.Pairwise (fun a b => b.1 ≤ a.1 ∧ a.2 < b.2)) :
    Calls Ybad.prog 11 #[v, .agg #[.int .i64 c, .int .i64 m]] w fun e w' => e = .returned (.bool (Plain.holdsL r (c, m))) ∧ RowKit.Below w.heap.size w w' := by
  rcases hD with ⟨rfl, rfl⟩ | ⟨g, cap, rfl, _, hR⟩
  · exact holds_nil c m w
  · exact holds_any g cap r c m w hn hR hp

def newLack (flen : Nat) (h : Bool) : Int := if flen = 0 then 1 else if h then 3 else 2
def newMsg (l l0 c m : Int) (msg0 : ByteArray) : ByteArray := if l = l0 then msg0 else msgB l c m

set_option maxHeartbeats 4000000 in
set_option maxRecDepth 100000 in
theorem unplaced_any (bp lo : Nat) (fo : Option Addr) (flen fcap : Nat) (v : Value) (r : List (Int × Int)) (c m l0 : Int) (msg0 : ByteArray) (w : World)
    (hc0 : -9223372036854775808 ≤ c) (hc1 : c ≤ 9223372036854775807) (hm0 : -9223372036854775808 ≤ m) (hm1 : m ≤ 9223372036854775807)
    (hf : flen ≤ 1024) (hn : r.length ≤ 1024) (hT : Tab w) (hA : App w bp c m l0 msg0) (hD : Dr w lo v r) (hp : r.Pairwise (fun a b => b.1 ≤ a.1 ∧ a.2 < b.2)) :
    Calls Ybad.prog 7 #[.pointer (some ⟨bp, 0, none⟩), .slice fo flen fcap, v] w fun e w' =>
      e = .returned (.string (newMsg (newLack flen (Plain.holdsL r (c, m))) l0 c m msg0)) ∧ App w' bp c m (newLack flen (Plain.holdsL r (c, m))) (newMsg (newLack flen (Plain.holdsL r (c, m))) l0 c m msg0) ∧ w.grownBy w' (some bp) := by
  by_cases h0 : flen = 0
  · subst h0
    have e1 : newLack 0 (Plain.holdsL r (c, m)) = 1 := rfl
    rw [e1]
    clear e1 hD
    obtain ⟨k1, k2, k3, k4, k5, k6⟩ := id hA
    have HA := hide hA
    clear hA
    by_cases hl : (1 : Int) = l0
    · subst hl
      have e2 : newMsg 1 1 c m msg0 = msg0 := rfl
      rw [e2]
      clear e2
      go_enter Ybad.func7, Ybad.ntmps7
      go_wp2_with fail
      go_ret
      exact ⟨rfl, HA.out, gb_below _ (RowKit.Below.refl _ _)⟩
    · have e2 : newMsg 1 l0 c m msg0 = msgB 1 c m := if_neg hl
      rw [e2]
      have hl' : ((1 : Int) != l0) = true := by simpa using hl
      have HT := hide hT
      clear e2 hl hT
      go_enter Ybad.func7, Ybad.ntmps7
      go_wp2_with fail
      refine (size_any bp c m _ k1 k2).mono ?_
      rintro e w1 ⟨rfl, hB1⟩
      go_wp2_with fail
      refine (message_any 1 c m _ (Or.inl rfl) hc0 hc1 hm0 hm1 (HT.out.below hB1)).mono ?_
      rintro e w2 ⟨rfl, hB2⟩
      have hA2 := (HA.out.below hB1).below hB2
      have HA2 := hide hA2
      obtain ⟨q1, q2, q3, q4, q5, q6⟩ := hA2
      have HG : Hid (w.grownBy w2 (some bp)) := gb_trans (gb_below bp hB1) (gb_below bp hB2)
      clear hB1 hB2 k1 k2 k3 k4 k5 k6
      go_wp2_with fail
      go_ret
      exact ⟨rfl, HA2.out.set, gb_trans HG.out (gb_trans (gb_set _ _ _ _) (gb_set _ _ _ _))⟩
  · have h0' : ((flen : Int) == 0) = false := by simpa using h0
    have hhold : ∀ W, RowKit.Below w.heap.size w W → Calls Ybad.prog 11 #[v, .agg #[.int .i64 c, .int .i64 m]] W fun e w' => e = .returned (.bool (Plain.holdsL r (c, m))) ∧ RowKit.Below W.heap.size W w' := fun W hW => holds_dr lo v r c m W hn (hD.below hW) hp
    have HH := hide hhold
    have HA := hide hA
    have HT := hide hT
    obtain ⟨k1, k2, k3, k4, k5, k6⟩ := hA
    clear hhold hD hT hp
    obtain ⟨L, hL, hL3, hnl⟩ : ∃ L : Int, newLack flen (Plain.holdsL r (c, m)) = L ∧ (L = 1 ∨ L = 2 ∨ L = 3) ∧ ((Plain.holdsL r (c, m) = true ∧ L = 3) ∨ (Plain.holdsL r (c, m) = false ∧ L = 2)) := by
      cases hb : Plain.holdsL r (c, m)
      · exact ⟨2, by simp [newLack, h0], by simp, by simp⟩
      · exact ⟨3, by simp [newLack, h0], by simp, by simp⟩
    rw [hL]
    clear hL h0
    generalize Plain.holdsL r (c, m) = hb at *
    by_cases hl : L = l0
    · subst hl
      have e2 : newMsg L L c m msg0 = msg0 := if_pos rfl
      rw [e2]
      clear e2
      rcases hnl with ⟨rfl, rfl⟩ | ⟨rfl, rfl⟩
      all_goals
        go_enter Ybad.func7, Ybad.ntmps7
        go_wp2_with fail
        refine (size_any bp c m _ k1 k2).mono ?_
        rintro e w1 ⟨rfl, hB1⟩
        go_wp2_with fail
        refine (HH.out _ hB1).mono ?_
        rintro e w2 ⟨rfl, hB2⟩
        have hA2 := (HA.out.below hB1).below hB2
        have HA2 := hide hA2
        obtain ⟨q1, q2, q3, q4, q5, q6⟩ := hA2
        have HG : Hid (w.grownBy w2 (some bp)) := gb_trans (gb_below bp hB1) (gb_below bp hB2)
        clear hB1 hB2 k1 k2 k3 k4 k5 k6
        go_wp2_with fail
        go_ret
        exact ⟨rfl, HA2.out, HG.out⟩
    · have e2 : newMsg L l0 c m msg0 = msgB L c m := if_neg hl
      rw [e2]
      have hl' : (L != l0) = true := by simpa using hl
      clear e2 hl
      rcases hnl with ⟨rfl, rfl⟩ | ⟨rfl, rfl⟩
      all_goals
        go_enter Ybad.func7, Ybad.ntmps7
        go_wp2_with fail
        refine (size_any bp c m _ k1 k2).mono ?_
        rintro e w1 ⟨rfl, hB1⟩
        go_wp2_with fail
        refine (HH.out _ hB1).mono ?_
        rintro e w2 ⟨rfl, hB2⟩
        have hA2 := (HA.out.below hB1).below hB2
        have HA2 := hide hA2
        have HT2 := hide ((HT.out.below hB1).below hB2)
        obtain ⟨q1, q2, q3, q4, q5, q6⟩ := hA2
        have HG : Hid (w.grownBy w2 (some bp)) := gb_trans (gb_below bp hB1) (gb_below bp hB2)
        clear hB1 hB2 k1 k2 k3 k4 k5 k6
        go_wp2_with fail
        refine (size_any bp c m _ q1 q2).mono ?_
        rintro e w3 ⟨rfl, hB3⟩
        go_wp2_with fail
        refine (message_any _ c m _ (by decide) hc0 hc1 hm0 hm1 (HT2.out.below hB3)).mono ?_
        rintro e w4 ⟨rfl, hB4⟩
        have hA4 := (HA2.out.below hB3).below hB4
        have HA4 := hide hA4
        have HG4 : Hid (w.grownBy w4 (some bp)) := gb_trans HG.out (gb_trans (gb_below bp hB3) (gb_below bp hB4))
        clear hB3 hB4 q1 q2 q3 q4 q5 q6
        obtain ⟨q1, q2, q3, q4, q5, q6⟩ := hA4
        go_wp2_with fail
        go_ret
        exact ⟨rfl, HA4.out.set, gb_trans HG4.out (gb_trans (gb_set _ _ _ _) (gb_set _ _ _ _))⟩

theorem unplaced_to (bp lo : Nat) (fo : Option Addr) (flen fcap : Nat) (v : Value) (r : List (Int × Int)) (c m l0 : Int) (msg0 : ByteArray) (L : Int) (M : ByteArray) (w : World)
    (hc0 : -9223372036854775808 ≤ c) (hc1 : c ≤ 9223372036854775807) (hm0 : -9223372036854775808 ≤ m) (hm1 : m ≤ 9223372036854775807)
    (hf : flen ≤ 1024) (hn : r.length ≤ 1024) (hp : r.Pairwise (fun a b => b.1 ≤ a.1 ∧ a.2 < b.2)) (hL : newLack flen (Plain.holdsL r (c, m)) = L) (hM : newMsg L l0 c m msg0 = M)
    (hT : Tab w) (hA : App w bp c m l0 msg0) (hD : Dr w lo v r) :
    Calls Ybad.prog 7 #[.pointer (some ⟨bp, 0, none⟩), .slice fo flen fcap, v] w fun e w' => e = .returned (.string M) ∧ App w' bp c m L M ∧ w.grownBy w' (some bp) := by
  have h := unplaced_any bp lo fo flen fcap v r c m l0 msg0 w hc0 hc1 hm0 hm1 hf hn hT hA hD hp
  rw [hL, hM] at h
  exact h
end Go.Proofs.YbulkdbqDoor
