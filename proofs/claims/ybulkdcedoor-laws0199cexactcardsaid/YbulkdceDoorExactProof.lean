import Derived.Test.YbulkdceDoorLocks
import Derived.Test.YbulkdceDoorTie
import Derived.Test.YbulkdceDoorCards
import Derived.ProofKit
import Derived.LaidMore
import Derived.OpenShut
import Derived.Stop.Joined
import Derived.ChangeVars
import Derived.SevenTiedAt
namespace Go.Proofs.YbulkdceDoor
open Go.ChangeShapes Go.WideShapes Go.ChangeAt Go.WideMaps Go.WideElems Go.RowKit
set_option linter.unusedVariables false

theorem own : ownKnob Ybad.prog.godebug = none := by kernel_rfl
theorem laidOut : laidOutB Ybad.prog = true := by kernel_rfl
theorem gModes : Ybad.prog.globalNamed "example.com/escalon/escalon.lockModes" = some 0 := by kernel_rfl
theorem tModes : (Ybad.prog.globals[0]?).map (·.type) = some 29 := by kernel_rfl
theorem c29 : Ybad.prog.cellsOf 29 = 30 := by kernel_rfl
theorem c28 : Ybad.prog.cellsOf 28 = 5 := by kernel_rfl
theorem c23 : Ybad.prog.cellsOf 23 = 1 := by kernel_rfl
abbrev laid1 : List (String × DataW Unit) := [("example.com/escalon/escalon.lockModes", Rows.laid_example_com_escalon_escalon_lockModes)]

/-- A flat row of 5-cell structs: its column 1. -/
theorem col_of_trod {H : Type} {enc : TypeId × Value → H} {W : World} {sp : Nat → Bool} {held : Bool} {fuel : Nat} {cs : List Value} {x0 x1 x2 x3 x4 : DataW H} {p : List MemPlace} {c : Int}
    (h : DataW.trod enc Ybad.prog W 0 sp held fuel 28 cs = some (.agg [x0, x1, x2, x3, x4], p)) (hc : x1 = .lit (.int .u8 c)) : cs[1]? = some (.int .u8 c) := by
  obtain ⟨ys, m, _, hx, hlen, hn, hf⟩ := DataW.trod_struct Ybad.underlying28 h
  have h1 := hf 1 _ rfl
  simp only [Prod.mk.injEq, DataW.agg.injEq] at hx
  have hy : ys.length = 5 := by simpa using hn
  match ys, hy, hx, h1 with
  | [y0, y1, y2, y3, y4], _, hx, h1 =>
    simp only [List.map_cons, List.map_nil, List.cons.injEq, and_true] at hx
    obtain ⟨k, e1, e2, _⟩ := DataW.trod_int Ybad.underlying23 (show DataW.trod enc Ybad.prog W 0 sp held m 23 _ = some y1 from h1)
    have hk : k = c := by
      have h3 : x1 = y1.1 := hx.1.2.1
      rw [e2, hc] at h3
      simpa using h3.symm
    subst hk
    change List.take (Ybad.prog.cellsOf 23) (List.drop 1 cs) = _ at e1
    rw [c23] at e1
    rw [c28] at hlen
    match cs, hlen, e1 with
    | [a0, a1, a2, a3, a4], _, e1 =>
      simp at e1
      simpa using e1

theorem table_of_laid {W : World} (h : laidMetH Ybad.prog laid1 W) : Table W := by
  rw [MakeChecks.laidMetH_plain _ _ _ (by kernel_rfl)] at h
  obtain ⟨ps, ⟨g0, t0, cs0, f0, p0, q0, hg0, ht0, hv0, hd0, _, _⟩, _, _⟩ := h
  obtain rfl := Option.some.inj (gModes.symm.trans hg0)
  obtain rfl := Option.some.inj (tModes.symm.trans ht0)
  obtain ⟨xs, m, _, hx, hlen, hn, hel⟩ := DataW.trod_array Ybad.underlying29 hd0
  simp only [Prod.mk.injEq, Rows.laid_example_com_escalon_escalon_lockModes, DataW.agg.injEq] at hx
  obtain ⟨hx, _⟩ := hx
  rw [c28] at hel
  have hcol : ∀ a c x0 x1 x2 x3 x4, a < 6 → (xs.map (·.1))[a]? = some (.agg [x0, x1, x2, x3, x4]) → x1 = .lit (.int .u8 c) → W.cell? ⟨0, a * 5 + 1, none⟩ = some (.int .u8 c) := by
    intro a c x0 x1 x2 x3 x4 ha hxa hc
    rw [List.getElem?_map] at hxa
    obtain ⟨y, hy, hy1⟩ := Option.map_eq_some_iff.1 hxa
    have h1 := hel a ha
    rw [hy] at h1
    obtain ⟨d, pl⟩ := y
    simp only at hy1
    subst hy1
    have h2 := col_of_trod h1 hc
    rw [World.var?_cell hg0 hv0 (a * 5 + 1)]
    have h3 : ((cs0.toList.drop (a * 5)).take 5)[1]? = cs0.toList[a * 5 + 1]? := by
      rw [List.getElem?_take_of_lt (by omega), List.getElem?_drop]
    rw [h3] at h2
    simpa using h2
  intro a ha
  have hx' := fun i : Nat => congrArg (fun l : List (DataW Unit) => l[i]?) hx.symm
  match a, ha with
  | 0, _ => exact hcol 0 0 _ _ _ _ _ (by omega) (hx' 0) rfl
  | 1, _ => exact hcol 1 30 _ _ _ _ _ (by omega) (hx' 1) rfl
  | 2, _ => exact hcol 2 6 _ _ _ _ _ (by omega) (hx' 2) rfl
  | 3, _ => exact hcol 3 10 _ _ _ _ _ (by omega) (hx' 3) rfl
  | 4, _ => exact hcol 4 2 _ _ _ _ _ (by omega) (hx' 4) rfl
  | 5, _ => exact hcol 5 0 _ _ _ _ _ (by omega) (hx' 5) rfl

/-- The door's own heap meets the condition. -/
theorem door_met (os : Os) (args : Array Value) : laidMetH Ybad.prog laid1 ((World.doorLaid Ybad.prog 1405 os).forCall (fun _ _ => 0) ⟨#[], args, []⟩).memory :=
  laidMetH_of_parts3 (fuel := 8) (laidMet_of_run' 8 (by kernel_rfl) (by kernel_rfl)) (by kernel_rfl) (by kernel_rfl)

set_option maxRecDepth 100000 in
theorem lifted (os : Os) (started : os.Started) (H : Type) (enc : TypeId × Value → H) :
    ReturnsInHanded {} Ybad.checked os 3 .any (fun w args => (Rows.lawS0199CExactSpec.pre enc Ybad.prog Ybad.f3 [] false w args ∧ laidMetH Ybad.prog laid1 w) ∧ sizedMet enc Ybad.prog Ybad.f3 (OpenSpec.ofChange Rows.lawS0199CExactSpec) false w args)
      (Rows.lawS0199CExactSpec.post enc Ybad.prog Ybad.f3 false true false false) := by
  refine returnsInHanded_of_change_and (C := Ybad.checked) (X := fun w _ => laidMetH Ybad.prog laid1 w) (fun _ _ _ hh h => h.of_heap hh) own started (by kernel_rfl) Ybad.func3
    (ChangeSpec.witness_shaped (enc := enc) (C := Ybad.checked) (os := os) (X := fun w _ => laidMetH Ybad.prog laid1 w) false (World.doorLaid Ybad.prog 1405 os) #[.int .u8 0] 8 rfl (World.shaped_of_RefB (by kernel_rfl) (by kernel_rfl)) (by kernel_rfl) (by kernel_rfl) (by kernel_rfl) (door_met os _)) ?_
  intro W base args ds gs before hval0 hW _ _ hL _
  have hval : ∀ (j : Nat) t v, Ybad.f3.params[j]? = some t → args[j]? = some v → Value.okWide Ybad.prog W .any base t v := hval0
  have hW' := hW
  obtain ⟨p, q, hA0, hV0, rfl, hfz, hnd⟩ := hW
  have hA : DataW.TrodAll enc Ybad.prog W 0 (fun _ => true) true Ybad.f3.params.toList args.toList ds p := hA0
  have hV : DataW.TrodVars enc Ybad.prog W (fun _ => true) ["example.com/escalon/escalon.lockModes"] gs q := hV0
  rw [Ybad.params3] at hA hval
  obtain ⟨v0, d0, rfl, rfl, h0⟩ := trodAll_one hA
  obtain ⟨x, rfl, rfl, rfl, wx⟩ := open_int Ybad.underlying5 (hval 0 5 v0 rfl rfl) h0
  obtain ⟨b0, b1⟩ := bounds_u8 wx
  obtain ⟨g, t, cs, fuel, d, p', rfl, hg, ht, hvar, hd, rfl⟩ := trodVars_one hV
  obtain rfl := Option.some.inj (gModes.symm.trans hg)
  obtain rfl := Option.some.inj (tModes.symm.trans ht)
  have hT := table_of_laid hL
  clear hA0 hV0 hval0
  have hlt : ∀ y ∈ p', y.block < W.heap.size := fun y hy => DataW.trod_lt fuel _ _ _ hd y hy
  obtain ⟨fuel', hd'⟩ := Below.trod laidOut (by kernel_rfl) (of_decide_eq_true (by kernel_rfl)) (v := .agg cs) (⟨fuel, hd⟩ : DataW.Trod enc Ybad.prog W 0 (fun _ => true) true 29 (.agg cs) d p') (Below.refl _ W) hlt
  refine (exact_any x W hT b0 b1).mono fun e W' ⟨he, hw⟩ => ?_
  subst he; subst hw
  exact ⟨_, rfl, _, _, _, [], _, _, hW', trodAll_mk1 (shut_bool Ybad.underlying4 _), trodAll_mk1 (shut_int Ybad.underlying5 wx), trodVars_mk1 gModes tModes hvar hd', World.keptBut_refl _ _, fun h => by cases h⟩

theorem lawS0199CExact_holds : Rows.LawS0199CExactSaid :=
  OpenClaim.holds_of_wide 3 Ybad.f3 rfl rfl rfl rfl rfl rfl rfl ⟨rfl, rfl, rfl, rfl, rfl⟩ rfl rfl rfl rfl rfl (by kernel_rfl) Ybad.func3 (by kernel_rfl)
    (of_decide_eq_true (by kernel_rfl)) (by unfold Func.isWrapper; first | (rw [if_pos (by decide +kernel)]; kernel_rfl) | (rw [if_neg (by decide +kernel)]; exact ⟨rfl, rfl⟩))
    (fun os started H enc _ => lifted os started H enc)

/-- The statement: the tied card. -/
theorem lawS0199CExact_card : Rows.LawS0199CExactCardSaid :=
  Claim7.holds_tied_plain_at .later [] [.called] true (true, "b3f14b7d7683eb1df9f8080d61295e84622351f5e48d8b2b07fe85f7cd40f844") false
    lawS0199CExact_holds (fun _ h => by cases h) (by kernel_rfl) (fun _ h => by cases h) lawS0199CExact_row_tie rfl ⟨rfl, rfl⟩ (by kernel_rfl) rfl
    (fun f fn hf hfn => by
      obtain rfl : f = 3 := Option.some.inj ((show Ybad.prog.funcNamed "example.com/escalon/escalon.LawS0199CExact" = some 3 by kernel_rfl).symm.trans hf) |>.symm
      obtain rfl : fn = Ybad.f3 := (Option.some.inj (Ybad.func3.symm.trans hfn)).symm
      exact ⟨by kernel_rfl, fun j t ht => by
        rw [Ybad.params3] at ht
        have hm : t ∈ [5] := by simpa using Array.mem_of_getElem? ht
        have hall : ([5].all fun u => !Ybad.prog.wantsStandIn u) = true := by kernel_rfl
        exact (show Ybad.prog.wantsStandIn t = false by simpa using List.all_eq_true.1 hall t hm)⟩)
    (by kernel_rfl)
end Go.Proofs.YbulkdceDoor
