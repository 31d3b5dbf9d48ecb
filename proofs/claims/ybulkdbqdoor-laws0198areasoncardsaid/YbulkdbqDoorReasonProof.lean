import Derived.Test.YbulkdbqDoorLaw2
import Derived.Test.YbulkdbqDoorTie
import Derived.Test.YbulkdbqDoorCards
import Derived.ProofKit
import Derived.LaidMore
import Derived.OpenShut
import Derived.ShutString
import Derived.Stop.Joined
import Derived.Stop.LaidErr
import Derived.Lib.LaidTab
import Derived.Deep.SlicePairs
import Derived.SevenTiedAt
namespace Go.Proofs.YbulkdbqDoor
open Go.ChangeShapes Go.WideShapes Go.ChangeAt Go.WideMaps Go.WideElems Go.RowKit
open Go.ChangeMaps (open_string shut_string)
set_option linter.unusedVariables false
set_option linter.unusedSimpArgs false

theorem own : ownKnob Ybad.prog.godebug = none := by kernel_rfl
theorem laidOut : laidOutB Ybad.prog = true := by kernel_rfl
abbrev laid3 : List (String × DataW Unit) := [("math/bits.deBruijn32tab", Rows.laid_math_bits_deBruijn32tab), ("math/bits.deBruijn64tab", Rows.laid_math_bits_deBruijn64tab), ("internal/strconv.uint64pow10", Rows.laid_internal_strconv_uint64pow10)]
theorem c51 : Ybad.prog.cellsOf 51 = 2 := by kernel_rfl
theorem c21 : Ybad.prog.cellsOf 21 = 1 := by kernel_rfl

/-- The door's own heap meets the condition. -/
theorem door_met (os : Os) (args : Array Value) : laidMetH Ybad.prog laid3 ((World.doorLaid Ybad.prog 24 os).forCall (fun _ _ => 0) ⟨#[], args, []⟩).memory :=
  laidMetH_of_parts3 (fuel := 8) (laidMet_of_run' 8 (by kernel_rfl) (by kernel_rfl)) (by kernel_rfl) (by kernel_rfl)

theorem tab_of_laid {W : World} (h : laidMetH Ybad.prog laid3 W) : Tab W := by
  rw [MakeChecks.laidMetH_plain _ _ _ (by kernel_rfl)] at h
  have h3 : laidMet Ybad.prog (("internal/strconv.uint64pow10", Lib.tabData .u64 Lib.pow10Tab) :: []) W := h.tail.tail
  exact Lib.tabIs_of_head gPow (t := 93) (e := 25) (n := 20) (by kernel_rfl) (by kernel_rfl) (by kernel_rfl) (by kernel_rfl) (by kernel_rfl) h3

theorem addr_add (b off n : Nat) : (⟨b, off, none⟩ : Addr).add n = ⟨b, off + n, none⟩ := by
  by_cases h : n = 0
  · subst h; simp [Addr.add]
  · simp [Addr.add, h]

/-- An argument of type []ZzS0198ASize, opened. -/
theorem isPairs_of {H : Type} {enc : TypeId × Value → H} {W : World} {fuel : Nat} {a : Option Addr} {len cap : Nat} {x : DataW H × List MemPlace}
    (h : DataW.trod enc Ybad.prog W 0 (fun _ => true) true fuel 22 [.slice a len cap] = some x) : len ≤ maxLen ∧ ∃ zs, IsPairs W a len cap zs := by
  rcases Deep.open_slice_pairs Ybad.underlying22 Ybad.underlying51 c51 rfl rfl c21 c21 h with ⟨hcs, _⟩ | ⟨ad, l, c, m, n, V0, V1, D0, D1, P0, P1, hcs, _, hl, hm, hmm, _, hx⟩
  · simp only [List.cons.injEq, Value.slice.injEq, and_true] at hcs
    obtain ⟨rfl, rfl, rfl⟩ := hcs
    exact ⟨Nat.zero_le _, [], rfl, fun j => by simp, Or.inl ⟨rfl, rfl, rfl⟩⟩
  · simp only [List.cons.injEq, Value.slice.injEq, and_true] at hcs
    obtain ⟨rfl, rfl, rfl⟩ := hcs
    simp only [if_true] at hmm
    subst hmm
    have hv : ∀ i, i < m → V0 i = .int .i32 (intOf (V0 i)) ∧ V1 i = .int .i32 (intOf (V1 i)) ∧ (Lit.int .i32 (intOf (V0 i))).wf = true ∧ (Lit.int .i32 (intOf (V1 i))).wf = true := by
      intro i hi
      obtain ⟨_, _, t0, t1⟩ := hx i hi
      obtain ⟨k0, e0, _, w0⟩ := DataW.trod_int Ybad.underlying21 t0
      obtain ⟨k1, e1, _, w1⟩ := DataW.trod_int Ybad.underlying21 t1
      simp only [List.cons.injEq, and_true] at e0 e1
      rw [e0, e1]
      exact ⟨rfl, rfl, w0, w1⟩
    have hg : ∀ j, j < len → ((List.range len).map fun i => (intOf (V0 i), intOf (V1 i))).getD j (0, 0) = (intOf (V0 j), intOf (V1 j)) := by
      intro j hj; simp [hj]
    refine ⟨by omega, (List.range len).map fun i => (intOf (V0 i), intOf (V1 i)), by simp, ?_, Or.inr ⟨ad, rfl, fun h0 => ?_⟩⟩
    · intro j
      by_cases hj : j < len
      · rw [hg j hj]
        obtain ⟨_, _, w0, w1⟩ := hv j (by omega)
        have b0 := bounds_i32 w0
        have b1 := bounds_i32 w1
        exact ⟨b0.1, b0.2, b1.1, b1.2⟩
      · have : ((List.range len).map fun i => (intOf (V0 i), intOf (V1 i))).getD j (0, 0) = (0, 0) := by simp [hj]
        rw [this]; decide
    · have hc := (hx 0 (by omega)).1
      obtain ⟨b, off, spot⟩ := ad
      have hspot : spot = none := by simpa [Addr.add] using World.cell?_spot hc
      subst hspot
      refine ⟨b, off, rfl, fun j hj => ?_⟩
      rw [hg j hj]
      obtain ⟨q0, q1, _, _⟩ := hx j (by omega)
      obtain ⟨v0, v1, _, _⟩ := hv j (by omega)
      rw [v0] at q0
      rw [v1] at q1
      rw [addr_add] at q0 q1
      exact ⟨q0, by rw [Nat.add_assoc]; exact q1⟩

set_option maxRecDepth 100000 in
theorem lifted (os : Os) (started : os.Started) (H : Type) (enc : TypeId × Value → H) :
    ReturnsInHanded {} Ybad.checked os 3 .any (fun w args => (Rows.lawS0198AReasonSpec.pre enc Ybad.prog Ybad.f3 [] false w args ∧ laidMetH Ybad.prog laid3 w) ∧ sizedMet enc Ybad.prog Ybad.f3 (OpenSpec.ofChange Rows.lawS0198AReasonSpec) false w args)
      (Rows.lawS0198AReasonSpec.post enc Ybad.prog Ybad.f3 false true false false) := by
  refine returnsInHanded_of_change_and (C := Ybad.checked) (X := fun w _ => laidMetH Ybad.prog laid3 w) (fun _ _ _ hh h => h.of_heap hh) own started (by kernel_rfl) Ybad.func3
    (ChangeSpec.witness_shaped (enc := enc) (C := Ybad.checked) (os := os) (X := fun w _ => laidMetH Ybad.prog laid3 w) false (World.doorLaid Ybad.prog 24 os) #[.int .i64 0, .int .i64 0, .slice none 0 0, .slice none 0 0, .int .u8 0, .string ⟨#[]⟩] 8 rfl (World.shaped_of_RefB (by kernel_rfl) (by kernel_rfl)) (by kernel_rfl) (by kernel_rfl) (by kernel_rfl) (door_met os _)) ?_
  intro W base args ds gs before hval0 hW _ _ hL _
  have hval : ∀ (j : Nat) t v, Ybad.f3.params[j]? = some t → args[j]? = some v → Value.okWide Ybad.prog W .any base t v := hval0
  have hW' := hW
  obtain ⟨p, q, hA0, hV, rfl, hfz, hnd⟩ := hW
  have hA : DataW.TrodAll enc Ybad.prog W 0 (fun _ => true) true Ybad.f3.params.toList args.toList ds p := hA0
  rw [Ybad.params3] at hA hval
  obtain ⟨v0, vs0, d0, ds0, p0, q0, hargs, rfl, rfl, h0, r0⟩ := trodAll_cons hA
  obtain ⟨v1, vs1, d1, ds1, p1, q1, rfl, rfl, rfl, h1, r1⟩ := trodAll_cons r0
  obtain ⟨v2, vs2, d2, ds2, p2, q2, rfl, rfl, rfl, h2, r2⟩ := trodAll_cons r1
  obtain ⟨v3, vs3, d3, ds3, p3, q3, rfl, rfl, rfl, h3, r3⟩ := trodAll_cons r2
  obtain ⟨v4, vs4, d4, ds4, p4, q4, rfl, rfl, rfl, h4, r4⟩ := trodAll_cons r3
  obtain ⟨v5, vs5, d5, ds5, p5, q5, rfl, rfl, rfl, h5, r5⟩ := trodAll_cons r4
  obtain ⟨rfl, rfl, rfl⟩ := trodAll_nil r5
  obtain rfl : args = #[v0, v1, v2, v3, v4, v5] := by cases args; simp_all
  obtain ⟨rfl, rfl⟩ := trodVars_none hV
  obtain ⟨c, rfl, rfl, rfl, w0⟩ := open_int Ybad.underlying3 (hval 0 3 v0 rfl rfl) h0
  obtain ⟨m, rfl, rfl, rfl, w1⟩ := open_int Ybad.underlying3 (hval 1 3 v1 rfl rfl) h1
  obtain ⟨a2, len2, cap2, rfl⟩ := okWide_slice Ybad.underlying22 (hval 2 22 v2 rfl rfl)
  obtain ⟨a3, len3, cap3, rfl⟩ := okWide_slice Ybad.underlying22 (hval 3 22 v3 rfl rfl)
  have k2 := h2
  have k3 := h3
  have lt2 : ∀ x ∈ p2, x.block < W.heap.size := by obtain ⟨n, hm⟩ := k2; exact DataW.trod_lt n _ _ _ hm
  have lt3 : ∀ x ∈ p3, x.block < W.heap.size := by obtain ⟨n, hm⟩ := k3; exact DataW.trod_lt n _ _ _ hm
  obtain ⟨f2, hf2⟩ := h2
  obtain ⟨f3, hf3⟩ := h3
  obtain ⟨x2, z2, hz2⟩ := isPairs_of hf2
  obtain ⟨x3, z3, hz3⟩ := isPairs_of hf3
  obtain ⟨o, rfl, rfl, rfl, w4⟩ := open_int Ybad.underlying5 (hval 4 5 v4 rfl rfl) h4
  obtain ⟨s, rfl, rfl, rfl, ws⟩ := open_string Ybad.underlying9 (hval 5 9 v5 rfl rfl) h5
  obtain ⟨c0, c1⟩ := bounds_i64 w0
  obtain ⟨m0, m1⟩ := bounds_i64 w1
  obtain ⟨o0, o1⟩ := bounds_u8 w4
  have hT := tab_of_laid hL
  clear hA0 hval0
  refine (law_walk c m a2 len2 cap2 z2 a3 len3 cap3 z3 o s W c0 c1 m0 m1 o0 o1 x2 x3 hz2 hz3 hT).mono fun e W' ⟨he, bel⟩ => ?_
  subst he
  exact ⟨_, rfl, _, _, _, [], _, [], hW', trodAll_mk1 (shut_bool Ybad.underlying4 _),
    (trodAll_cons_mk (shut_int Ybad.underlying3 w0) (trodAll_cons_mk (shut_int Ybad.underlying3 w1) (trodAll_cons_mk (Below.trod laidOut (by kernel_rfl) (of_decide_eq_true (by kernel_rfl)) k2 bel lt2)
      (trodAll_cons_mk (Below.trod laidOut (by kernel_rfl) (of_decide_eq_true (by kernel_rfl)) k3 bel lt3) (trodAll_cons_mk (shut_int Ybad.underlying5 w4) (trodAll_cons_mk (shut_string Ybad.underlying9 ws) trodAll_mk0)))))),
    rfl, bel.frame _, fun h => by cases h⟩

theorem lawS0198AReason_holds : Rows.LawS0198AReasonSaid :=
  OpenClaim.holds_of_wide 3 Ybad.f3 rfl rfl rfl rfl rfl rfl rfl ⟨rfl, rfl, rfl, rfl, rfl⟩ rfl rfl rfl rfl rfl (by kernel_rfl) Ybad.func3 (by kernel_rfl)
    (of_decide_eq_true (by kernel_rfl)) (by unfold Func.isWrapper; first | (rw [if_pos (by decide +kernel)]; kernel_rfl) | (rw [if_neg (by decide +kernel)]; exact ⟨rfl, rfl⟩))
    (fun os started H enc _ => lifted os started H enc)

/-- The statement: the tied card. -/
theorem lawS0198AReason_card : Rows.LawS0198AReasonCardSaid :=
  Claim7.holds_tied_plain_at .later [] [.data, .data, .data] true (true, "04d9e3f19749c5b636fb4720ed62947211ac6f5293fad47eef9b02a694580b17") false
    lawS0198AReason_holds (fun _ h => by cases h) (by kernel_rfl) (fun _ h => by cases h) lawS0198AReason_row_tie rfl ⟨rfl, rfl⟩ (by kernel_rfl) rfl
    (fun f fn hf hfn => by
      obtain rfl : f = 3 := Option.some.inj ((show Ybad.prog.funcNamed "example.com/rookery/rookery/internal/master.LawS0198AReason" = some 3 by kernel_rfl).symm.trans hf) |>.symm
      obtain rfl : fn = Ybad.f3 := (Option.some.inj (Ybad.func3.symm.trans hfn)).symm
      exact ⟨by kernel_rfl, fun j t ht => by
        rw [Ybad.params3] at ht
        have hm : t ∈ [3, 3, 22, 22, 5, 9] := by simpa using Array.mem_of_getElem? ht
        have hall : ([3, 3, 22, 22, 5, 9].all fun u => !Ybad.prog.wantsStandIn u) = true := by kernel_rfl
        exact (show Ybad.prog.wantsStandIn t = false by simpa using List.all_eq_true.1 hall t hm)⟩)
    (by kernel_rfl)
end Go.Proofs.YbulkdbqDoor
