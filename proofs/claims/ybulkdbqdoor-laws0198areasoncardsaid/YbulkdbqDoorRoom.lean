import Derived.Test.YbulkdbqDoorHolds
namespace Go.Proofs.YbulkdbqDoor
open Go.Shelf Go.RowKit Go.Lib Go.Sort
set_option linter.unusedVariables false
set_option linter.unusedSimpArgs false

theorem roomStep_nil (p : Int × Int) : Plain.roomStep [] p = [p] := by simp [Plain.roomStep]
theorem roomStep_add (L : List (Int × Int)) (y p : Int × Int) (h : y.2 < p.2) : Plain.roomStep (L ++ [y]) p = L ++ [y] ++ [p] := by simp [Plain.roomStep, h]
theorem roomStep_skip (L : List (Int × Int)) (y p : Int × Int) (h : ¬ y.2 < p.2) : Plain.roomStep (L ++ [y]) p = L ++ [y] := by simp [Plain.roomStep, h]

theorem roomL_take (l : List (Int × Int)) (k : Nat) (h : k < l.length) : Plain.roomL (l.take (k + 1)) = Plain.roomStep (Plain.roomL (l.take k)) (l.getD k (0, 0)) := by
  rw [getD_take_succ l k h, Plain.roomL_snoc]

/-- The last one's memory, in an owned row. -/
theorem last_cell {w : World} {base g cap : Nat} {L : List (Int × Int)} {y : Int × Int} (h : w.ownsRow base 49 2 (.slice (some ⟨g, 0, none⟩) (L.length + 1) cap) (L.length + 1) (cellsOf (L ++ [y]))) :
    w.cell? ⟨g, L.length * 2 + 1, none⟩ = some (.int .i64 y.2) := by
  rcases h.2 with ⟨hv, _⟩ | ⟨g', cap', cur, hv, hb, hh, h1, h2, h3, h4⟩
  · cases hv
  · simp only [Value.slice.injEq, Option.some.injEq, Addr.mk.injEq, and_true, true_and] at hv
    obtain ⟨rfl, rfl⟩ := hv
    have hc := (cellsOf_at (L ++ [y]) L.length (by simp)).2
    have hg : (L ++ [y]).getD L.length (0, 0) = y := by simp
    rw [hg, ← h4] at hc
    rw [List.getElem?_take_of_lt (by omega)] at hc
    simp only [World.cell?, hh]
    simpa using hc

theorem cells2_new (w : World) (o : Obj) (nq : Nat) (a b : Value) (t : TypeId) : ∀ (j : Nat) (u : Value), [a, b][j]? = some u → (((w.alloc o).drewN nq).alloc (.cells #[a, b] t)).cell? ((⟨w.heap.size + 1, 0, none⟩ : Addr).add j) = some u := by
  intro j u hj
  match j, hj with
  | 0, hj => simp at hj; subst hj; exact World.cell?_alloc_at _ _ _ _ (by simp)
  | 1, hj => simp at hj; subst hj; exact World.cell?_alloc_at _ _ _ _ (by simp)

theorem own_after {wr : World} {base : Nat} {e : TypeId} {sz : Nat} {v : Value} {n : Nat} {xs : List Value} (h : wr.ownsRow base e sz v n xs) (o1 o2 : Obj) (nq : Nat) : (((wr.alloc o1).drewN nq).alloc o2).ownsRow base e sz v n xs :=
  World.ownsRow.alloc (w := (wr.alloc o1).drewN nq) (show ((wr.alloc o1).drewN nq).ownsRow base e sz v n xs from h.alloc o1) o2

theorem below_after {w1 wr w3 : World} {e : TypeId} {sz : Nat} {v : Value} {n : Nat} {xs : List Value} (hnx : RowKit.Below w1.heap.size w1 wr) (h : wr.ownsRow w1.heap.size e sz v n xs) (o1 o2 : Obj) (nq : Nat)
    (hg : (((wr.alloc o1).drewN nq).alloc o2).grownBy w3 v.ownBlock) : RowKit.Below w1.heap.size w1 w3 := by
  have hs := hnx.size
  refine ((below_drewN (hnx.alloc hs o1) nq).alloc (by simp; omega) o2).grown hg (by simp; omega) ?_
  intro k hk
  rcases h.2 with ⟨rfl, _⟩ | ⟨g, cp, cur, rfl, hbase, _⟩
  · cases hk
  · simp [Value.ownBlock] at hk; omega

theorem one2 (a b : Int) : ∀ u ∈ [Value.int .i64 a, Value.int .i64 b], u.oneCell' = true := by
  intro u hu; simp at hu; rcases hu with rfl | rfl <;> rfl

set_option maxHeartbeats 4000000 in
set_option maxRecDepth 100000 in
/-- roomOf, the sort's contract a hypothesis. -/
theorem room_any (ao : Option Addr) (gs len cap : Nat) (w : World) (hlen : len ≤ 1024) (B : Nat) (Φ : List (Int × Int) → Prop)
    (hao : 0 < len → ao = some ⟨gs, 0, none⟩) (hBw : B ≤ w.heap.size)
    (hsort : Calls Ybad.prog 8 #[.slice ao len cap, .func (.func 9) #[] #[]] w fun e w' => e = .returned (.tuple #[]) ∧ ∃ l : List (Int × Int), l.length = len ∧ Φ l ∧ (0 < len → Row w' gs l) ∧ RowKit.Below B w w') :
    Calls Ybad.prog 5 #[.slice ao len cap] w fun e w' => ∃ v l b1, e = .returned v ∧ l.length = len ∧ Φ l ∧ w.heap.size ≤ b1 ∧ w'.ownsRow b1 49 2 v (Plain.roomL l).length (cellsOf (Plain.roomL l)) ∧ RowKit.Below B w w' := by
  obtain ⟨i0, hi, hz0, hz1, hz2⟩ := info_parts Ybad.info49
  go_enter Ybad.func5, Ybad.ntmps5
  go_wp2_with (go_at_call 8; refine hsort.mono ?_; rintro e w1 ⟨rfl, l, hl, hΦ, hrow, hB1⟩)
  go_loopw [3, 10] (fun v i wr => ∃ k : Nat, k ≤ len ∧ i = .int .i64 k ∧ wr.ownsRow w1.heap.size 49 2 v (Plain.roomL (l.take k)).length (cellsOf (Plain.roomL (l.take k))) ∧ RowKit.Below w1.heap.size w1 wr) (fun _ i _ => len - (intOf i).toNat)
  case atStart => exact ⟨0, Nat.zero_le _, rfl, World.ownsRow_nil _ _ _ _, RowKit.Below.refl _ _⟩
  case round =>
    obtain ⟨k, hk, rfl, hown, hnx⟩ := hrel
    by_cases hlt : k < len
    · obtain rfl := hao (by omega)
      obtain ⟨hgs, hcells⟩ := hrow (by omega)
      obtain ⟨c0, c1⟩ := hcells k (by omega)
      rw [← hnx.cell (p := ⟨gs, k * 2, none⟩) hgs] at c0
      rw [← hnx.cell (p := ⟨gs, k * 2 + 1, none⟩) hgs] at c1
      have HT := hide (roomL_take l k (by omega))
      have hLl : (Plain.roomL (l.take k)).length ≤ k := by have := Plain.roomL_length (l.take k); simp at this; omega
      generalize Plain.roomL (l.take k) = L at *
      generalize l.getD k (0, 0) = pr at *
      obtain ⟨p1, p2⟩ := pr
      simp only at c0 c1
      have hs0 := hnx.size
      have HΦ := hide hΦ
      clear hsort hΦ hcells hrow hao
      rcases List.eq_nil_or_concat L with rfl | ⟨L', y, rfl⟩
      · -- nothing is kept yet
        have HR : Hid (Plain.roomL (l.take (k + 1)) = [(p1, p2)]) := by show _ = _; rw [HT.out, roomStep_nil]
        rcases hown.2 with ⟨rfl, _⟩ | ⟨g, cp, cur, rfl, hbase, hh, h1, h2, h3, h4⟩
        all_goals
          have HO := hide hown
          clear hown
          go_wp2_with fail
          go_quiet (fail)
          go_wp2_with (at_builtin; refine wpList_append_own _ rfl (.tmp 29) (.tmp 31) 45 rfl w1.heap.size 49 i0 _ 2 16 Ybad.underlying45 hi hz0 hz1 hz2 rfl (by decide) _ 0 [] rfl (own_after HO.out _ _ _) ⟨wr.heap.size + 1, 0, none⟩ 1 1 [.int .i64 p1, .int .i64 p2] rfl rfl (cells2_new _ _ _ _ _ _) (one2 p1 p2) (by unfold maxLen; omega) (by omega) (by simp; omega) ?_)
          intro v3 w3 hown3 hg3 _
          have hnx3 := below_after hnx HO.out _ _ _ hg3
          have H3 := hide hown3
          clear hown3 hg3 hnx HO c0 c1
          go_wp2
          go_roundw
          case rel =>
            refine ⟨k + 1, by omega, by go_num, ?_, hnx3⟩
            rw [HR.out]; exact H3.out
          case measure => simp [intOf]; omega
      · rw [List.concat_eq_append] at *
        have hlen' : (L' ++ [y]).length = L'.length + 1 := by simp
        rw [hlen'] at hown hLl
        rcases hown.2 with ⟨rfl, h0⟩ | ⟨g, cp, cur, rfl, hbase, hh, h1, h2, h3, h4⟩
        · omega
        · have hlast := last_cell hown
          have HO := hide hown
          have HH := hide hh
          have H4 := hide h4
          clear hown hh h3 h4
          have hgl : g < wr.heap.size := (Array.getElem?_eq_some_iff.1 HH.out).1
          have h00 : (((L'.length : Int) + 1) == 0) = false := by simp; omega
          by_cases hcmp : y.2 < p2
          · have HR : Hid (Plain.roomL (l.take (k + 1)) = L' ++ [y] ++ [(p1, p2)]) := by show _ = _; rw [HT.out, roomStep_add _ _ _ hcmp]
            obtain ⟨y1, y2⟩ := y
            simp only at hcmp hlast
            go_wp2_with fail
            go_quiet (fail)
            go_wp2_with (at_builtin; refine wpList_append_own _ rfl (.tmp 29) (.tmp 31) 45 rfl w1.heap.size 49 i0 _ 2 16 Ybad.underlying45 hi hz0 hz1 hz2 rfl (by decide) _ (L'.length + 1) _ rfl (own_after HO.out _ _ _) ⟨wr.heap.size + 1, 0, none⟩ 1 1 [.int .i64 p1, .int .i64 p2] rfl rfl (cells2_new _ _ _ _ _ _) (one2 p1 p2) (by unfold maxLen; omega) (by omega) (by simp; omega) ?_)
            intro v3 w3 hown3 hg3 _
            have hnx3 := below_after hnx HO.out _ _ _ hg3
            have H3 := hide hown3
            clear hown3 hg3 hnx HO c0 c1 hlast HH H4
            go_wp2
            go_roundw
            case rel =>
              refine ⟨k + 1, by omega, by go_num, ?_, hnx3⟩
              rw [HR.out, cellsOf_snoc]
              simpa using H3.out
            case measure => simp [intOf]; omega
          · have HR : Hid (Plain.roomL (l.take (k + 1)) = L' ++ [y]) := by show _ = _; rw [HT.out, roomStep_skip _ _ _ hcmp]
            obtain ⟨y1, y2⟩ := y
            simp only at hcmp hlast
            go_wp2_with fail
            go_quiet (fail)
            have hnx3 : RowKit.Below w1.heap.size w1 ((wr.alloc (.cells #[.int .i64 p1, .int .i64 p2] 49)).drewN nq) := below_drewN (hnx.alloc hs0 _) _
            have H3 : Hid (((wr.alloc (.cells #[.int .i64 p1, .int .i64 p2] 49)).drewN nq).ownsRow w1.heap.size 49 2 (.slice (some ⟨g, 0, none⟩) (L'.length + 1) cp) (L'.length + 1) (cellsOf (L' ++ [(y1, y2)]))) := HO.out.alloc _
            clear hnx HO c0 c1 hlast HH H4
            go_wp2
            go_roundw
            case rel =>
              refine ⟨k + 1, by omega, by go_num, ?_, hnx3⟩
              rw [HR.out, hlen']
              exact H3.out
            case measure => simp [intOf]; omega
    · go_wp2
      obtain rfl : k = len := by omega
      rw [List.take_of_length_le (by omega)] at hown
      go_ret
      exact ⟨_, l, _, rfl, hl, hΦ, hB1.size, hown, hB1.trans (hnx.mono (by have := hB1.size; omega))⟩
end Go.Proofs.YbulkdbqDoor
