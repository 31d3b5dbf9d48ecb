import Derived.Test.YbulkdbqDoorUnplaced
namespace Go.Proofs.YbulkdbqDoor
open Go.Shelf Go.RowKit Go.Lib Go.Sort
set_option linter.unusedVariables false
set_option linter.unusedSimpArgs false

/-- A slice of pairs that came in: nil, or a row in memory. -/
def IsPairs (w : World) (a : Option Addr) (len cap : Nat) (zs : List (Int × Int)) : Prop :=
  zs.length = len ∧ In32 zs ∧ ((a = none ∧ len = 0 ∧ cap = 0) ∨ ∃ x : Addr, a = some x ∧ (0 < len → ∃ b off, x = ⟨b, off, none⟩ ∧ Pairs w b off len zs))

theorem Pairs.below {w w' : World} {b off len : Nat} {zs : List (Int × Int)} (h : Pairs w b off len zs) (hb : RowKit.Below w.heap.size w w') : Pairs w' b off len zs := by
  intro j hj
  obtain ⟨c0, c1⟩ := h j hj
  have hlt : b < w.heap.size := World.block_lt_of_cell? _ _ c0
  exact ⟨(hb.cell (p := ⟨b, off + j * 2, none⟩) hlt).trans c0, (hb.cell (p := ⟨b, off + j * 2 + 1, none⟩) hlt).trans c1⟩

theorem IsPairs.below {w w' : World} {a : Option Addr} {len cap : Nat} {zs : List (Int × Int)} (h : IsPairs w a len cap zs) (hb : RowKit.Below w.heap.size w w') : IsPairs w' a len cap zs := by
  obtain ⟨h1, h2, h3⟩ := h
  refine ⟨h1, h2, ?_⟩
  rcases h3 with h3 | ⟨x, hx, h3⟩
  · exact Or.inl h3
  · exact Or.inr ⟨x, hx, fun hl => by obtain ⟨b, off, e, hp⟩ := h3 hl; exact ⟨b, off, e, hp.below hb⟩⟩

set_option maxHeartbeats 1000000 in
set_option maxRecDepth 100000 in
/-- zzs0198asizes at an empty slice that is not nil. -/
theorem sizes_zero (x : Addr) (cap : Nat) (w : World) :
    Calls Ybad.prog 4 #[.slice (some x) 0 cap] w fun e w' => e = .returned (.slice (some ⟨w.heap.size, 0, none⟩) 0 0) ∧
      w'.ownsRow w.heap.size 49 2 (.slice (some ⟨w.heap.size, 0, none⟩) 0 0) 0 [] ∧ Below w.heap.size w w' := by
  have hn := fun w' => Lib.run_eql_slice_nil (P := Ybad.prog) w' 22 51 (some x) 0 cap 0 0 Ybad.underlying22
  obtain ⟨i0, hi, hz0, hz1, hz2⟩ := info_parts Ybad.info49
  go_enter Ybad.func4, Ybad.ntmps4
  go_wp2_with (at_make; refine wpList_make_own _ rfl _ _ 44 rfl w.heap.size 49 i0 _ 2 Ybad.underlying44 hi hz0 hz1 _ _ _ 0 rfl rfl rfl (by rw [hz2]; omega) (by unfold maxLen; omega) (Nat.le_refl _) ?_; intro w1 hown1 hg1)
  refine wp_loop_rounds 1 ?_
  rw [rounds_succ]
  go_wp2
  go_ret
  exact ⟨rfl, hown1, (RowKit.Below.refl _ _).grown hg1 (Nat.le_refl _) (fun k hk => by cases hk)⟩

/-- What zzs0198asizes hands back. -/
def OwnS (w : World) (base : Nat) (a : Option Addr) (len cap : Nat) (zs : List (Int × Int)) : Prop :=
  (a = none ∧ len = 0 ∧ cap = 0 ∧ zs = []) ∨ ∃ g, a = some ⟨g, 0, none⟩ ∧ zs.length = len ∧ w.ownsRow base 49 2 (.slice (some ⟨g, 0, none⟩) len cap) len (cellsOf zs)

theorem sizes_args (a : Option Addr) (len cap : Nat) (zs : List (Int × Int)) (w : World) (hlen : len ≤ 1024) (h : IsPairs w a len cap zs) :
    Calls Ybad.prog 4 #[.slice a len cap] w fun e w' => ∃ a' cap', e = .returned (.slice a' len cap') ∧ OwnS w' w.heap.size a' len cap' zs ∧ RowKit.Below w.heap.size w w' := by
  obtain ⟨h1, h2, h3⟩ := h
  rcases h3 with ⟨rfl, rfl, rfl⟩ | ⟨x, rfl, h3⟩
  · refine (sizes_nil w).mono fun e w' ⟨he, hw⟩ => ⟨none, 0, he, Or.inl ⟨rfl, rfl, rfl, List.eq_nil_of_length_eq_zero h1⟩, by rw [hw]; exact RowKit.Below.refl _ _⟩
  · by_cases h0 : 0 < len
    · obtain ⟨b, off, rfl, hp⟩ := h3 h0
      exact (sizes_any b off len cap zs w hlen h1 hp h2).mono fun e w' ⟨he, ho, hb⟩ => ⟨_, len, he, Or.inr ⟨_, rfl, h1, ho⟩, hb⟩
    · obtain rfl : len = 0 := by omega
      obtain rfl := List.eq_nil_of_length_eq_zero h1
      exact (sizes_zero x cap w).mono fun e w' ⟨he, ho, hb⟩ => ⟨_, 0, he, Or.inr ⟨_, rfl, rfl, ho⟩, hb⟩

theorem dr_of_own {w : World} {base lo : Nat} {v : Value} {r : List (Int × Int)} (h : w.ownsRow base 49 2 v r.length (cellsOf r)) (hlo : lo ≤ base) : Dr w lo v r := by
  rcases h.2 with ⟨hv, h0⟩ | ⟨g, cap, cur, hv, hb, hh, h1, h2, h3, h4⟩
  · exact Or.inl ⟨hv, List.eq_nil_of_length_eq_zero h0⟩
  · refine Or.inr ⟨g, cap, hv, Nat.le_trans hlo hb, (Array.getElem?_eq_some_iff.1 hh).1, fun i hi => ?_⟩
    obtain ⟨q1, q2⟩ := cellsOf_at r i hi
    rw [← h4, List.getElem?_take_of_lt (by omega)] at q1 q2
    simp only [World.cell?, hh]
    exact ⟨by simpa using q1, by simpa using q2⟩

/-- roomOf(zzs0198asizes(declared)), behind the first of the two calls. -/
theorem roomOf_args (base : Nat) (a : Option Addr) (len cap : Nat) (zs : List (Int × Int)) (w : World) (hlen : len ≤ 1024) (h32 : In32 zs) (hBw : base ≤ w.heap.size) (h : OwnS w base a len cap zs) :
    Calls Ybad.prog 5 #[.slice a len cap] w fun e w' => ∃ v r, e = .returned v ∧ Dr w' w.heap.size v r ∧ r.length ≤ 1024 ∧ r.Pairwise (fun a b => b.1 ≤ a.1 ∧ a.2 < b.2) ∧ (∀ s, Plain.holdsL r s = zs.any (fun d => Plain.geS d s)) ∧ RowKit.Below base w w' := by
  have fin : ∀ (e : Ending) (w' : World) (n : Nat), n ≤ 1024 → (∃ v l b1, e = .returned v ∧ l.length = n ∧ Phi zs l ∧ w.heap.size ≤ b1 ∧ w'.ownsRow b1 49 2 v (Plain.roomL l).length (cellsOf (Plain.roomL l)) ∧ RowKit.Below base w w') →
      ∃ v r, e = .returned v ∧ Dr w' w.heap.size v r ∧ r.length ≤ 1024 ∧ r.Pairwise (fun a b => b.1 ≤ a.1 ∧ a.2 < b.2) ∧ (∀ s, Plain.holdsL r s = zs.any (fun d => Plain.geS d s)) ∧ RowKit.Below base w w' := by
    rintro e w' n hn ⟨v, l, b1, he, hl, hΦ, hb1, ho, hB⟩
    have I := Plain.roomL_inv l.length l rfl hΦ.1
    refine ⟨v, Plain.roomL l, he, dr_of_own ho hb1, by have := Plain.roomL_length l; omega, I.pw, fun s => ?_, hB⟩
    rw [Plain.room_law l hΦ.1 s, hΦ.2 s]
  rcases h with ⟨rfl, rfl, rfl, rfl⟩ | ⟨g, rfl, rfl, ho⟩
  · refine (roomOf_nil w).mono fun e w' h => fin e w' 0 (by omega) ?_
    obtain ⟨v, l, b1, he, hl, hΦ, hb1, ho, hB⟩ := h
    exact ⟨v, l, b1, he, hl, hΦ, hb1, ho, hB.mono hBw⟩
  · exact (roomOf_any base g cap zs w h32 hlen hBw ho).mono fun e w' h => fin e w' zs.length hlen h
end Go.Proofs.YbulkdbqDoor
