import Derived.Test.YbulkdcsLawA
import Derived.WalkKit
import Derived.ProofKit
import Derived.OpenShut
import Derived.ShutString
import Derived.ChangeOld
import Derived.Below
import Derived.Deep.Slices
namespace Go.Proofs.Ybulkdcs.lawS0200CAgrees
open Go.ChangeShapes Go.WideShapes Go.ChangeAt Go.RowKit
open Go.ChangeMaps (open_string shut_string)
set_option linter.unusedVariables false
set_option linter.unusedSimpArgs false

theorem own : ownKnob Yba.prog.godebug = none := by kernel_rfl
theorem laidOut : laidOutB Yba.prog = true := by kernel_rfl
theorem c35 : Yba.prog.cellsOf 35 = 6 := by kernel_rfl
theorem c4 : Yba.prog.cellsOf 4 = 1 := by kernel_rfl
theorem c24 : Yba.prog.cellsOf 24 = 1 := by kernel_rfl
theorem c23 : Yba.prog.cellsOf 23 = 1 := by kernel_rfl
theorem c26 : Yba.prog.cellsOf 26 = 8 := by kernel_rfl
theorem c3 : Yba.prog.cellsOf 3 = 1 := by kernel_rfl

theorem word_of {n : Int} (w : (Lit.int .u64 n).wf = true) : Word n := by
  have h := bounds_u64 w
  unfold Word
  omega

theorem addr_add (b off n : Nat) : (⟨b, off, none⟩ : Addr).add n = ⟨b, off + n, none⟩ := by
  by_cases h : n = 0
  · subst h; simp [Addr.add]
  · simp [Addr.add, h]

set_option maxRecDepth 100000 in
/-- One section handed in, opened. -/
theorem sec_of {H : Type} {enc : TypeId × Value → H} {W : World} {n : Nat} {cs : List Value} {x : DataW H × List MemPlace} (hl : cs.length = 6)
    (h : DataW.trod enc Yba.prog W 0 (fun _ => true) true n 35 cs = some x) : ∃ s : Sec, s.ok ∧ cs = [.bool s.al, .bool s.tl, .bool s.nb, .int .u64 s.ad, .int .u64 s.off, .int .u64 s.sz] := by
  obtain ⟨xs, k, _, _, _, hxl, hf⟩ := DataW.trod_struct Yba.underlying35 h
  match xs, hxl, cs, hl with
  | [y0, y1, y2, y3, y4, y5], _, [v0, v1, v2, v3, v4, v5], _ =>
    have g0 := hf 0 _ rfl
    have g1 := hf 1 _ rfl
    have g2 := hf 2 _ rfl
    have g3 := hf 3 _ rfl
    have g4 := hf 4 _ rfl
    have g5 := hf 5 _ rfl
    simp [c4, c24] at g0 g1 g2 g3 g4 g5
    obtain ⟨b0, e0, _⟩ := DataW.trod_bool Yba.underlying4 g0
    obtain ⟨b1, e1, _⟩ := DataW.trod_bool Yba.underlying4 g1
    obtain ⟨b2, e2, _⟩ := DataW.trod_bool Yba.underlying4 g2
    obtain ⟨n3, e3, _, w3⟩ := DataW.trod_int Yba.underlying24 g3
    obtain ⟨n4, e4, _, w4⟩ := DataW.trod_int Yba.underlying24 g4
    obtain ⟨n5, e5, _, w5⟩ := DataW.trod_int Yba.underlying24 g5
    simp only [List.cons.injEq, and_true] at e0 e1 e2 e3 e4 e5
    subst e0 e1 e2 e3 e4 e5
    exact ⟨⟨b1, b0, b2, n3, n4, n5⟩, ⟨word_of w3, word_of w4, word_of w5⟩, rfl⟩

/-- The sections handed in, opened. -/
theorem secs_of {H : Type} {enc : TypeId × Value → H} {W : World} {fuel : Nat} {a : Option Addr} {len cap : Nat} {x : DataW H × List MemPlace}
    (h : DataW.trod enc Yba.prog W 0 (fun _ => true) true fuel 22 [.slice a len cap] = some x) : len ≤ maxLen ∧ ∃ s, SecsAt W a len s := by
  rcases Deep.open_slice Yba.underlying22 h with ⟨hcs, _⟩ | ⟨ad, l, c, m, n, D, Pl, hcs, _, hl, hm, hmm, _, hx⟩
  · simp only [List.cons.injEq, Value.slice.injEq, and_true] at hcs
    obtain ⟨rfl, rfl, rfl⟩ := hcs
    exact ⟨Nat.zero_le _, fun _ => ⟨false, false, false, 0, 0, 0⟩, ⟨fun h => by omega, fun i hi => by omega⟩⟩
  · simp only [List.cons.injEq, Value.slice.injEq, and_true] at hcs
    obtain ⟨rfl, rfl, rfl⟩ := hcs
    simp only [if_true] at hmm
    subst hmm
    rw [c35] at hx
    have each : ∀ i, i < m → ∃ s : Sec, s.ok ∧ ∀ j v, [Value.bool s.al, .bool s.tl, .bool s.nb, .int .u64 s.ad, .int .u64 s.off, .int .u64 s.sz][j]? = some v → W.cell? (ad.add (i * 6 + j)) = some v := fun i hi => by
      obtain ⟨cs', h1, h2⟩ := hx i hi
      obtain ⟨_, hlen, hcell⟩ := World.cells?_some h1
      obtain ⟨s, hs, hcs'⟩ := sec_of hlen h2
      refine ⟨s, hs, fun j v hv => ?_⟩
      rw [← hcs'] at hv
      have hj : j < 6 := by rw [← hlen]; exact (List.getElem?_eq_some_iff.1 hv).1
      have := hcell j hj
      rw [Deep.add_add] at this
      rw [this, hv]
    have hex : ∃ s : Nat → Sec, ∀ i, i < m → (s i).ok ∧ ∀ j v, [Value.bool (s i).al, .bool (s i).tl, .bool (s i).nb, .int .u64 (s i).ad, .int .u64 (s i).off, .int .u64 (s i).sz][j]? = some v → W.cell? (ad.add (i * 6 + j)) = some v := by
      have h' : ∀ i, ∃ s : Sec, i < m → s.ok ∧ ∀ j v, [Value.bool s.al, .bool s.tl, .bool s.nb, .int .u64 s.ad, .int .u64 s.off, .int .u64 s.sz][j]? = some v → W.cell? (ad.add (i * 6 + j)) = some v := fun i => by
        by_cases hi : i < m
        · obtain ⟨s, hs⟩ := each i hi
          exact ⟨s, fun _ => hs⟩
        · exact ⟨⟨false, false, false, 0, 0, 0⟩, fun h => absurd h hi⟩
      exact Classical.skolem.1 h'
    obtain ⟨s, hs⟩ := hex
    refine ⟨by omega, s, ⟨fun h0 => ?_, fun i hi => (hs i (by omega)).1⟩⟩
    have hc := (hs 0 (by omega)).2 0 _ rfl
    obtain ⟨b, off, spot⟩ := ad
    have hspot : spot = none := by simpa [Addr.add] using World.cell?_spot hc
    subst hspot
    refine ⟨b, off, rfl, fun i hi => ?_⟩
    have hj := (hs i (by omega)).2
    have q0 := hj 0 _ rfl
    have q1 := hj 1 _ rfl
    have q2 := hj 2 _ rfl
    have q3 := hj 3 _ rfl
    have q4 := hj 4 _ rfl
    have q5 := hj 5 _ rfl
    rw [addr_add] at q0 q1 q2 q3 q4 q5
    exact ⟨q0, q1, q2, q3, q4, q5⟩

set_option maxRecDepth 100000 in
/-- The segment handed in, opened. -/
theorem seg_of {H : Type} {enc : TypeId × Value → H} {W : World} {fuel : Nat} {cs : Array Value} {x : DataW H × List MemPlace} (hl : cs.size = 8)
    (h : DataW.trod enc Yba.prog W 0 (fun _ => true) true fuel 26 cs.toList = some x) : ∃ p : Seg, p.ok ∧ cs = p.arr := by
  obtain ⟨xs, k, _, _, _, hxl, hf⟩ := DataW.trod_struct Yba.underlying26 h
  obtain ⟨l⟩ := cs
  have hl' : l.length = 8 := by simpa using hl
  match xs, hxl, l, hl' with
  | [y0, y1, y2, y3, y4, y5, y6, y7], _, [v0, v1, v2, v3, v4, v5, v6, v7], _ =>
    have g0 := hf 0 _ rfl
    have g1 := hf 1 _ rfl
    have g2 := hf 2 _ rfl
    have g3 := hf 3 _ rfl
    have g4 := hf 4 _ rfl
    have g5 := hf 5 _ rfl
    have g6 := hf 6 _ rfl
    have g7 := hf 7 _ rfl
    simp [c23, c24] at g0 g1 g2 g3 g4 g5 g6 g7
    obtain ⟨n0, e0, _, w0⟩ := DataW.trod_int Yba.underlying23 g0
    obtain ⟨n1, e1, _, w1⟩ := DataW.trod_int Yba.underlying23 g1
    obtain ⟨n2, e2, _, w2⟩ := DataW.trod_int Yba.underlying24 g2
    obtain ⟨n3, e3, _, w3⟩ := DataW.trod_int Yba.underlying24 g3
    obtain ⟨n4, e4, _, w4⟩ := DataW.trod_int Yba.underlying24 g4
    obtain ⟨n5, e5, _, w5⟩ := DataW.trod_int Yba.underlying24 g5
    obtain ⟨n6, e6, _, w6⟩ := DataW.trod_int Yba.underlying24 g6
    obtain ⟨n7, e7, _, w7⟩ := DataW.trod_int Yba.underlying24 g7
    simp only [List.cons.injEq, and_true] at e0 e1 e2 e3 e4 e5 e6 e7
    subst e0 e1 e2 e3 e4 e5 e6 e7
    exact ⟨⟨n0, n1, n2, n3, n4, n5, n6, n7⟩, ⟨word_of w2, word_of w3, word_of w5, word_of w6⟩, rfl⟩

/-- The numbers handed in, opened. -/
theorem ints_of {H : Type} {enc : TypeId × Value → H} {W : World} {fuel : Nat} {a : Option Addr} {len cap : Nat} {x : DataW H × List MemPlace}
    (h : DataW.trod enc Yba.prog W 0 (fun _ => true) true fuel 27 [.slice a len cap] = some x) : len ≤ maxLen ∧ ∃ zs : List Int, zs.length = len ∧ IntsAt W a zs := by
  rcases open_ints Yba.underlying27 Yba.underlying3 c3 h with ⟨hcs, _⟩ | ⟨ad, l, c, zs, hcs, _, hl, hm, hz, _, hcell, _⟩
  · simp only [List.cons.injEq, Value.slice.injEq, and_true] at hcs
    obtain ⟨rfl, rfl, rfl⟩ := hcs
    exact ⟨Nat.zero_le _, [], rfl, fun h => by simp at h⟩
  · simp only [List.cons.injEq, Value.slice.injEq, and_true] at hcs
    obtain ⟨rfl, rfl, rfl⟩ := hcs
    simp only [if_true] at hz
    have htl : (zs.take len).length = len := by rw [List.length_take]; omega
    refine ⟨by omega, zs.take len, htl, fun h0 => ?_⟩
    rw [htl] at h0
    have hc := hcell 0 (by omega)
    obtain ⟨b, off, spot⟩ := ad
    have hspot : spot = none := by simpa [Addr.add] using World.cell?_spot hc
    subst hspot
    refine ⟨b, off, rfl, fun i hi => ?_⟩
    rw [htl] at hi
    have := hcell i (by omega)
    rw [addr_add] at this
    rw [this]
    simp [List.getD, List.getElem?_take_of_lt hi]

/-! ### THE ROW's STEP -/
set_option maxRecDepth 100000 in
theorem lifted (os : Os) (started : os.Started) (H : Type) (enc : TypeId × Value → H) :
    ReturnsInHanded {} Yba.checked os 3 .any (Rows.lawS0200CAgreesSpec.pre6 enc Yba.prog Yba.f3 Rows.lawS0200CAgreesRow.domain false) (Rows.lawS0200CAgreesSpec.post enc Yba.prog Yba.f3 false true false false) := by
  refine returnsInHanded_of_change (C := Yba.checked) own started (by kernel_rfl) Yba.func3
    (ChangeSpec.witness6 (enc := enc) (C := Yba.checked) false ⟨#[], #[.slice none 0 0, .agg #[.int .u32 0, .int .u32 0, .int .u64 0, .int .u64 0, .int .u64 0, .int .u64 0, .int .u64 0, .int .u64 0], .int .u8 0, .slice none 0 0], []⟩ 8 (by kernel_rfl) (by kernel_rfl) (by kernel_rfl) (by kernel_rfl)) ?_
  intro W base args ds gs before hval0 hW hcnd _
  have hval : ∀ (j : Nat) t v, Yba.f3.params[j]? = some t → args[j]? = some v → Value.okWide Yba.prog W .any base t v := hval0
  have hW' := hW
  obtain ⟨p, q, hA0, hV, rfl, hfz, hnd⟩ := hW
  have hA : DataW.TrodAll enc Yba.prog W 0 (fun _ => true) true Yba.f3.params.toList args.toList ds p := hA0
  rw [Yba.params3] at hA hval
  obtain ⟨v0, vs0, d0, ds0, p0, q0, hargs, rfl, rfl, h0, r0⟩ := trodAll_cons hA
  obtain ⟨v1, vs1, d1, ds1, p1, q1, rfl, rfl, rfl, h1, r1⟩ := trodAll_cons r0
  obtain ⟨v2, vs2, d2, ds2, p2, q2, rfl, rfl, rfl, h2, r2⟩ := trodAll_cons r1
  obtain ⟨v3, vs3, d3, ds3, p3, q3, rfl, rfl, rfl, h3, r3⟩ := trodAll_cons r2
  obtain ⟨rfl, rfl, rfl⟩ := trodAll_nil r3
  obtain rfl : args = #[v0, v1, v2, v3] := by cases args; simp_all
  obtain ⟨rfl, rfl⟩ := trodVars_none hV
  obtain ⟨a0, len0, cap0, rfl⟩ := okWide_slice Yba.underlying22 (hval 0 22 v0 rfl rfl)
  obtain ⟨cs1, rfl, hcs1⟩ := okWide_struct Yba.underlying26 (hval 1 26 v1 rfl rfl)
  obtain ⟨a3, len3, cap3, rfl⟩ := okWide_slice Yba.underlying27 (hval 3 27 v3 rfl rfl)
  have k0 := h0
  have k1 := h1
  have k3 := h3
  have lt0 : ∀ x ∈ p0, x.block < W.heap.size := by obtain ⟨m, hm⟩ := k0; exact DataW.trod_lt m _ _ _ hm
  have lt1 : ∀ x ∈ p1, x.block < W.heap.size := by obtain ⟨m, hm⟩ := k1; exact DataW.trod_lt m _ _ _ hm
  have lt3 : ∀ x ∈ p3, x.block < W.heap.size := by obtain ⟨m, hm⟩ := k3; exact DataW.trod_lt m _ _ _ hm
  obtain ⟨f0, hf0⟩ := h0
  obtain ⟨f1, hf1⟩ := h1
  obtain ⟨f3, hf3⟩ := h3
  obtain ⟨x0, s, hs⟩ := secs_of hf0
  obtain ⟨pg, hpg, rfl⟩ := seg_of (cs := cs1) (by rw [hcs1]; exact c26) hf1
  obtain ⟨x3, zs, hzl, hz⟩ := ints_of hf3
  obtain ⟨o, rfl, rfl, rfl, w2⟩ := open_int Yba.underlying5 (hval 2 5 v2 rfl rfl) h2
  obtain ⟨o0, o1⟩ := bounds_u8 w2
  obtain ⟨kd, rfl⟩ : ∃ kd : Nat, o = (kd : Int) := ⟨o.toNat, by omega⟩
  clear hA0 hval0
  refine (law_any a0 a3 len0 cap0 len3 cap3 kd s pg zs W hs hpg (by omega) hzl hz x0 x3).mono fun e W' ⟨he, hkp⟩ => ?_
  have bel : Below W.heap.size W W' := ⟨hkp.os, hkp.tape, hkp.output, hkp.size, fun i hi => hkp.block i hi (by simp)⟩
  subst he
  exact ⟨_, rfl, _, _, _, [], _, [], hW', trodAll_mk1 (shut_bool Yba.underlying4 _),
    (trodAll_cons_mk (Below.trod laidOut (by kernel_rfl) (of_decide_eq_true (by kernel_rfl)) k0 bel lt0) (trodAll_cons_mk (Below.trod laidOut (by kernel_rfl) (of_decide_eq_true (by kernel_rfl)) k1 bel lt1)
      (trodAll_cons_mk (shut_int Yba.underlying5 w2) (trodAll_cons_mk (Below.trod laidOut (by kernel_rfl) (of_decide_eq_true (by kernel_rfl)) k3 bel lt3) trodAll_mk0)))),
    rfl, bel.frame _, fun h => by cases h⟩

theorem over : Rows.lawS0200CAgreesRow.holds Yba.pinned (OpenSpec.ofChange Rows.lawS0200CAgreesSpec) :=
  OpenClaim.holds_of_wide 3 Yba.f3 rfl rfl rfl rfl rfl rfl rfl ⟨rfl, rfl, rfl, rfl, rfl⟩ rfl rfl rfl rfl rfl (by kernel_rfl) Yba.func3 (by kernel_rfl)
    (of_decide_eq_true (by kernel_rfl)) (by unfold Func.isWrapper; first | (rw [if_pos (by decide +kernel)]; kernel_rfl) | (rw [if_neg (by decide +kernel)]; exact ⟨rfl, rfl⟩))
    (fun os started H enc _ => lifted os started H enc)

end Go.Proofs.Ybulkdcs.lawS0200CAgrees

namespace Go.Proofs.Ybulkdcs
/-- The statement. -/
theorem lawS0200CAgrees_proved : Rows.LawS0200CAgreesSaid := lawS0200CAgrees.over
end Go.Proofs.Ybulkdcs
