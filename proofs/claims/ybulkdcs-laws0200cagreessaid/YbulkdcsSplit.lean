import Derived.Test.YbulkdcsTree
import Derived.Laws.CopyRow
namespace Go.Proofs.Ybulkdcs
open Go.Shelf Go.RowKit Go.Lib Go.Sort
set_option linter.unusedVariables false
set_option linter.unusedSimpArgs false

theorem Yba.size21 : (Yba.prog.info? 21).map (·.size) = some 1 := by kernel_rfl

theorem grx_setRow (w : World) (b : Nat) (X : Array Value) : GrX b w (w.setRow b X) := by
  refine ⟨⟨rfl, rfl, rfl, by simp [World.setRow], fun i hi hne => ?_⟩, Nat.le_refl _⟩
  show (w.heap.modify b _)[i]? = _
  rw [Array.getElem?_modify, if_neg (by intro e; exact hne (by rw [e]))]

/-- Some cells, laid over. -/
def spl (B : Array Value) (o : Nat) (cs : List Value) : Array Value := (B.toList.take o ++ cs ++ B.toList.drop (o + cs.length)).toArray
theorem spl_size {B : Array Value} {o : Nat} {cs : List Value} (h : o + cs.length ≤ B.size) : (spl B o cs).size = B.size := by
  simp [spl]; omega
theorem spl_get {B : Array Value} {o : Nat} {cs : List Value} (h : o + cs.length ≤ B.size) (j : Nat) : (spl B o cs)[j]? = if o ≤ j ∧ j < o + cs.length then cs[j - o]? else B[j]? := by
  have hB : B.toList.length = B.size := by simp
  have e : (spl B o cs)[j]? = (B.toList.take o ++ cs ++ B.toList.drop (o + cs.length))[j]? := by simp [spl]
  have e2 : B[j]? = B.toList[j]? := by simp
  rw [e, e2, List.append_assoc, List.getElem?_append, List.getElem?_append]
  have ht : (B.toList.take o).length = o := by rw [List.length_take]; omega
  rw [ht]
  by_cases h1 : j < o
  · rw [if_pos h1, if_neg (by omega), List.getElem?_take_of_lt h1]
  · rw [if_neg h1]
    by_cases h2 : j - o < cs.length
    · rw [if_pos h2, if_pos (by omega)]
    · rw [if_neg h2, if_neg (by omega), List.getElem?_drop]
      congr 1; omega
theorem brow_copy {B : Array Value} {L wd : Nat} {f : Nat → Int} {cs : List Value} (hcs : cs = (List.range wd).map fun i => .int .i32 (f i)) (h : L + 2 * wd ≤ B.size) : BRow B (spl (spl B L cs) (L + wd) cs) L wd f f := by
  have hl : cs.length = wd := by rw [hcs]; simp
  have hg : ∀ i, i < wd → cs[i]? = some (.int .i32 (f i)) := fun i hi => by rw [hcs]; simp [hi]
  have s1 := spl_size (B := B) (o := L) (cs := cs) (by omega)
  have s2 := spl_size (B := spl B L cs) (o := L + wd) (cs := cs) (by omega)
  refine ⟨by rw [s2, s1], fun i hi => ?_, fun i hi => ?_, fun j hj => ?_⟩
  · rw [spl_get (by omega), if_neg (by omega), spl_get (by omega), if_pos (by omega), show L + i - L = i by omega, hg i hi]
  · rw [spl_get (by omega), if_pos (by omega), show L + (wd + i) - (L + wd) = i by omega, hg i hi]
  · rw [spl_get (by omega), if_neg (by omega), spl_get (by omega), if_neg (by omega)]

theorem room_step {n node nodes n' : Nat} (h : ∃ d, n ≤ 16 * 2 ^ d ∧ (node + 2) * 2 ^ d ≤ nodes + 1) (hn : 16 < n) (hn' : n' ≤ (n + 1) / 2) : 2 * node + 4 ≤ nodes + 1 ∧ ∀ q, q ≤ 2 * node + 2 → ∃ d, n' ≤ 16 * 2 ^ d ∧ (q + 2) * 2 ^ d ≤ nodes + 1 := by
  obtain ⟨d, h1, h2⟩ := h
  cases d with
  | zero => simp at h1; omega
  | succ e =>
    rw [Nat.pow_succ] at h1 h2
    have h3 : (2 * node + 4) * 2 ^ e ≤ nodes + 1 := by
      rw [show (2 * node + 4) * 2 ^ e = (node + 2) * (2 ^ e * 2) by rw [Nat.mul_comm (2 ^ e) 2, ← Nat.mul_assoc]; congr 1; omega]; exact h2
    refine ⟨?_, fun q hq => ⟨e, by omega, Nat.le_trans (Nat.mul_le_mul_right _ (by omega)) h3⟩⟩
    have := Nat.mul_le_mul_left (2 * node + 4) (two_pow_pos e)
    omega

/-- What a split leaves. -/
def SplitPost {m : Nat} (ob oo bb wd node : Nat) (a : Nat → Nat → Int) (l : List (Fin (m + 1))) (C B : Array Value) (w : World) (e : Ending) (w' : World) : Prop :=
  e = .returned (.tuple #[]) ∧ ∃ (l' : List (Fin (m + 1))) (C' B' : Array Value), l'.Perm l ∧ w'.heap[ob]? = some (.cells C' 21 (0, 0)) ∧ C'.size = C.size ∧ (∀ t, t < l.length → C'[oo + t]? = some (.int .i32 ((l'.getD t 0).val : Int))) ∧ (∀ j, ¬ (oo ≤ j ∧ j < oo + l.length) → C'[j]? = C[j]?) ∧
    w'.heap[bb]? = some (.cells B' 21 (0, 0)) ∧ SameB wd B B' (Sub node) ∧ Tree wd a B' node l' ∧ GrY ob bb w w'

theorem getD_append_l {α : Type} (x y : List α) (d : α) (t : Nat) (h : t < x.length) : (x ++ y).getD t d = x.getD t d := by
  simp [List.getD, List.getElem?_append_left h]
theorem getD_append_r {α : Type} (x y : List α) (d : α) (t : Nat) : (x ++ y).getD (x.length + t) d = y.getD t d := by
  simp [List.getD, List.getElem?_append_right]

theorem split_join {m ob oo bb wd node k hf nd1 nd2 : Nat} {a : Nat → Nat → Int} {l l5 l6 l7 : List (Fin (m + 1))} {C C5 C6 C7 B Bk B6 B7 : Array Value} {w W7 : World} (hln : l.length = k + 1) (h5 : l5.Perm l) (hhf : hf = (k + 1) / 2) (h16 : 16 < k + 1)
    (hnd1 : nd1 = 2 * node + 1) (hnd2 : nd2 = 2 * node + 2) (h6 : l6.Perm (l5.take hf)) (h7 : l7.Perm (l5.drop hf)) (s5 : C5.size = C.size) (s6 : C6.size = C5.size) (s7 : C7.size = C6.size)
    (hO5 : ∀ j, ¬ (oo ≤ j ∧ j < oo + (k + 1)) → C5[j]? = C[j]?) (hO6 : ∀ j, ¬ (oo ≤ j ∧ j < oo + (l5.take hf).length) → C6[j]? = C5[j]?) (hO7 : ∀ j, ¬ (oo + hf ≤ j ∧ j < oo + hf + (l5.drop hf).length) → C7[j]? = C6[j]?)
    (hR6 : ∀ t, t < (l5.take hf).length → C6[oo + t]? = some (.int .i32 ((l6.getD t 0).val : Int))) (hR7 : ∀ t, t < (l5.drop hf).length → C7[oo + hf + t]? = some (.int .i32 ((l7.getD t 0).val : Int)))
    (hC7 : W7.heap[ob]? = some (.cells C7 21 (0, 0))) (hB7 : W7.heap[bb]? = some (.cells B7 21 (0, 0))) (hs1 : SameB wd B Bk (fun q => q = node)) (hs2 : SameB wd Bk B6 (Sub nd1)) (hs3 : SameB wd B6 B7 (Sub nd2)) (hb : Bnd wd a Bk node l) (ht6 : Tree wd a B6 nd1 l6) (ht7 : Tree wd a B7 nd2 l7) (hG : GrY ob bb w W7) :
    SplitPost ob oo bb wd node a l C B w (.returned (.tuple #[])) W7 := by
  subst hnd1 hnd2
  have e5 : l5.length = k + 1 := by rw [h5.length_eq, hln]
  have t6 : (l5.take hf).length = hf := by rw [List.length_take]; omega
  have t7 : (l5.drop hf).length = k + 1 - hf := by rw [List.length_drop]; omega
  have e6 : l6.length = hf := by rw [h6.length_eq, t6]
  have e7 : l7.length = k + 1 - hf := by rw [h7.length_eq, t7]
  have hp : (l6 ++ l7).Perm l := by
    have h1 := List.Perm.append h6 h7
    rw [List.take_append_drop] at h1
    exact h1.trans h5
  have hlen : (l6 ++ l7).length / 2 = hf := by rw [hp.length_eq, hln, hhf]
  refine ⟨rfl, l6 ++ l7, C7, B7, hp, hC7, by rw [s7, s6, s5], fun t ht => ?_, fun j hj => ?_, hB7, ?_, ?_, hG⟩
  · rw [hln] at ht
    by_cases h : t < hf
    · rw [getD_append_l _ _ _ _ (by omega), hO7 _ (by omega), hR6 t (by omega)]
    · have := hR7 (t - hf) (by omega)
      rw [show oo + hf + (t - hf) = oo + t by omega] at this
      rw [this]
      have e : t = l6.length + (t - hf) := by omega
      rw [e, getD_append_r, show l6.length + (t - hf) - hf = t - hf by omega]
  · rw [hln] at hj
    rw [hO7 _ (by omega), hO6 _ (by omega), hO5 _ hj]
  · exact ((hs1.weak (by intro q hq; subst hq; exact Sub.self _)).trans (hs2.weak fun q hq => hq.left)).trans (hs3.weak fun q hq => hq.right)
  · refine Tree.node (((hb.perm hp).same hs2 Sub.not_left).same hs3 Sub.not_right) (by rw [hp.length_eq, hln]; exact h16) ?_ ?_
    · rw [hlen, List.take_left' e6]
      exact ht6.same hs3 fun q h1 h2 => h1.apart h2
    · rw [hlen, List.drop_left' e6]
      exact ht7

set_option maxHeartbeats 8000000 in
set_option maxRecDepth 100000 in
theorem split_any (bt ab bb ob wd m nodes cap6 : Nat) (a : Nat → Nat → Int) (hwd : wd = 0 ∨ wd = 2 ∨ wd = 4) (hcap : (m + 1) * wd ≤ cap6) (hm : m < 512) (hnodes : nodes ≤ 200) (n1 : bt ≠ ob) (n2 : bt ≠ bb) (n3 : ab ≠ ob) (n4 : ab ≠ bb) (n5 : ob ≠ bb) :
    ∀ (n : Nat) (l : List (Fin (m + 1))) (hln : l.length = n) (oo capo node depth : Nat) (C B : Array Value) (w : World) (hcapo : n ≤ capo) (hpos : 0 < n) (hn : n ≤ 512) (hdep : depth + n ≤ 2000) (hnode : node < nodes) (hz : wd = 0 → node = 0) (hroom : wd ≠ 0 → ∃ d, n ≤ 16 * 2 ^ d ∧ (node + 2) * 2 ^ d ≤ nodes + 1)
      (hM : SpM bt ab bb wd m nodes a w) (hC : w.heap[ob]? = some (.cells C 21 (0, 0))) (hR : ∀ t, t < l.length → C[oo + t]? = some (.int .i32 ((l.getD t 0).val : Int))) (hB : w.heap[bb]? = some (.cells B 21 (0, 0))) (hBs : B.size = nodes * 2 * wd),
      Calls Yba.prog 17 #[.pointer (some ⟨bt, 0, none⟩), .slice (some ⟨ab, 0, none⟩) ((m + 1) * wd) cap6, .slice (some ⟨ob, oo, none⟩) n capo, .int .i64 node, .int .i64 depth] w (SplitPost ob oo bb wd node a l C B w) := by
  intro n
  induction n using Nat.strongRecOn with
  | _ n ih =>
  intro l hln oo capo node depth C B w hcapo hpos hn hdep hnode hz hroom hM hC hR hB hBs
  have IH := hide ih
  have HM := hide hM
  have HC := hide hC
  have HR := hide hR
  have HB := hide hB
  have HROOM := hide hroom
  have HZ := hide hz
  clear ih hM hC hR hB hroom hz
  have hbt : bt < w.heap.size := World.block_lt_of_cell? _ _ HM.out.g1
  have hob : ob < w.heap.size := (Array.getElem?_eq_some_iff.1 HC.out).1
  have hbb : bb < w.heap.size := (Array.getElem?_eq_some_iff.1 HB.out).1
  have g1 := HM.out.g1
  go_enter Yba.func17, Yba.ntmps17
  go_wp2_with fail
  obtain ⟨L, hL⟩ : ∃ L, L = 2 * node * wd := ⟨_, rfl⟩
  have hLn : L + 2 * wd ≤ nodes * 2 * wd := by
    have := Nat.mul_le_mul_right wd (show 2 * node + 2 ≤ nodes * 2 by omega)
    rw [Nat.add_mul] at this
    omega
  have hwa : ∃ Wa, Wa = ((w.alloc (.cells #[.slice (some ⟨ab, 0, none⟩) ((m + 1) * wd) cap6] 44)).alloc (.cells #[.int .i64 wd] 3)) := ⟨_, rfl⟩
  obtain ⟨Wa, hWa⟩ := hwa
  have GA : Gr w Wa := by rw [hWa]; exact ((Gr.refl _).alloc _).alloc _
  have q6 : Wa.cell? ⟨w.heap.size, 0, none⟩ = some (.slice (some ⟨ab, 0, none⟩) ((m + 1) * wd) cap6) := by rw [hWa]; simp
  have q10 : Wa.cell? ⟨w.heap.size + 1, 0, none⟩ = some (.int .i64 wd) := by rw [hWa]; simp
  have HMa := hide (HM.out.gry (GrY.of_gr (x := ob) (y := bb) GA) n1 n2 n3 n4)
  rw [← hWa]
  have hbox := box_any bt bb nodes wd node Wa hwd HMa.out.g1 HMa.out.g8 hnode hnodes HZ.out
  rw [← hL] at hbox
  generalize nodes * 2 * wd - L = cL at hbox
  generalize nodes * 2 * wd - (L + wd) = cH at hbox
  refine hbox.mono ?_
  clear hbox
  rintro _ W1 ⟨rfl, hG1⟩
  have HG1 := hide (GA.trans hG1)
  have HC1 := hide (HG1.out.block HC.out)
  have HB1 := hide (HG1.out.block HB.out)
  have HM1 := hide (HM.out.gry (GrY.of_gr (x := ob) (y := bb) HG1.out) n1 n2 n3 n4)
  have Q6 := hide (hG1.cell q6)
  have Q10 := hide (hG1.cell q10)
  have HL := hide hL
  clear g1 q6 q10 hG1 GA hWa hL
  have hT : (m + 1) * wd ≤ 2048 := by rcases hwd with rfl | rfl | rfl <;> omega
  have HT : Hid (∀ j, j < m + 1 → j * wd + wd ≤ (m + 1) * wd) := fun j hj => by
    have := Nat.mul_le_mul_right wd (show j + 1 ≤ m + 1 by omega)
    rwa [Nat.add_mul, Nat.one_mul] at this
  generalize hTe : (m + 1) * wd = T at *
  have HTe := hide hTe
  clear hTe
  obtain ⟨o0, ho0⟩ : ∃ o0 : Fin (m + 1), o0 = l.getD 0 0 := ⟨_, rfl⟩
  have f0 : W1.cell? ⟨ob, oo, none⟩ = some (.int .i32 (o0.val : Int)) := by
    simp only [World.cell?, HC1.out]
    have := HR.out 0 (by omega)
    rw [ho0]; exact this
  have h0l : o0.val < m + 1 := o0.isLt
  have hp0 := HT.out o0.val o0.isLt
  have HO0 := hide ho0
  clear ho0
  obtain ⟨x0, hx0⟩ : ∃ x0, x0 = o0.val := ⟨_, rfl⟩
  rw [← hx0] at f0 hp0 h0l
  obtain ⟨p0, hp0e⟩ : ∃ p0, p0 = x0 * wd := ⟨_, rfl⟩
  have mp0 : (x0 : Int) * (wd : Int) = (p0 : Int) := by rw [hp0e]; simp
  rw [← hp0e] at hp0
  have wr : ∀ n : Nat, n ≤ 3000 → IntKind.i64.wrap (n : Int) = n := fun n hn => by simp [IntKind.wrap, IntKind.bits, IntKind.signed]; omega
  have HWR := hide wr
  have wx0 := wr x0 (by omega)
  have wp0 := wr p0 (by omega)
  have ep0 : IntKind.i64.wrap ((x0 : Int) * (wd : Int)) = p0 := by rw [mp0]; exact wp0
  clear wr
  have zp : (0 : Int) ≤ (p0 : Int) := by omega
  have zpT : (p0 : Int) ≤ (T : Int) := by omega
  have hnI : (0 : Int) < (n : Int) := by omega
  have HIF : Hid (∀ x p : Nat, p = x * wd → p + wd ≤ T → (if cap6 = p then some (⟨ab, 0, none⟩ : Addr) else some ⟨ab, p, none⟩) = some ⟨ab, p, none⟩) := fun x p hp hpT => by
    by_cases e : cap6 = p
    · have : wd = 0 := by omega
      subst this
      rw [if_pos e, hp]; simp
    · rw [if_neg e]
  have hif := HIF.out x0 p0 hp0e hp0
  obtain ⟨cs, hcs⟩ : ∃ cs : List Value, cs = (List.range wd).map fun i => .int .i32 (a x0 i) := ⟨_, rfl⟩
  have hcl : cs.length = wd := by rw [hcs]; simp
  have hc1 : ∀ v ∈ cs, v.oneCell' = true := by intro v hv; rw [hcs] at hv; obtain ⟨i, _, rfl⟩ := List.mem_map.1 hv; rfl
  have hsrc : ∀ W : World, (∀ i, i < wd → W.cell? ⟨ab, p0 + i, none⟩ = some (.int .i32 (a x0 i))) → ∀ j v, cs[j]? = some v → W.cell? ((⟨ab, p0, none⟩ : Addr).add j) = some v := fun W hW j v hv => by
    have hj : j < wd := by rw [← hcl]; exact (List.getElem?_eq_some_iff.1 hv).1
    rw [Addr.add_lit, hW j hj, ← hv, hcs]
    simp [hj]
  have hat1 : ∀ i, i < wd → W1.drew.cell? ⟨ab, p0 + i, none⟩ = some (.int .i32 (a x0 i)) := fun i hi => by
    have := HM1.out.at_ x0 i h0l hi
    rw [hp0e]; simpa using this
  have hcp1 := run_copy_row (P := Yba.prog) W1.drew 44 44 3 21 bb L wd cL ⟨ab, p0, none⟩ (T - p0) (cap6 - p0) B 21 cs Yba.underlying44 Yba.size21 HB1.out (by rw [hcl]; exact (Nat.min_eq_right (by omega)).symm) (hsrc _ hat1) (by rw [hcl, hBs]; omega) hc1
  have q6 := Q6.out
  have q10 := Q10.out
  have HX0 := hide hx0
  have HP0 := hide hp0e
  have HCS := hide hcs
  have HCL := hide hcl
  have HC1c := hide hc1
  have HSRC := hide hsrc
  clear hsrc hat1 hc1 hcl hcs hx0 hp0e
  obtain ⟨B1, hB1⟩ : ∃ B1, B1 = spl B L cs := ⟨_, rfl⟩
  have e1 : (List.take L B.toList ++ cs ++ List.drop (L + cs.length) B.toList).toArray = B1 := hB1.symm
  rw [e1] at hcp1
  clear e1
  have HB1e := hide hB1
  clear hB1
  go_wp2_with fail
  go_region
  obtain ⟨W2, hW2⟩ : ∃ W2, W2 = W1.drew.setRow bb B1 := ⟨_, rfl⟩
  have g2 : GrX bb W1 W2 := by rw [hW2]; exact (GrX.of_gr (Gr.refl W1).drew).trans (grx_setRow _ _ _)
  have b2 : W2.heap[bb]? = some (.cells B1 21 (0, 0)) := by rw [hW2]; exact setRow_heap _ _ _ _ 21 _ HB1.out
  rw [← hW2]
  clear hW2 hcp1 f0 q6 q10
  have n6 : w.heap.size ≠ bb := by omega
  have n10 : w.heap.size + 1 ≠ bb := by omega
  have HC2 := hide (g2.block HC1.out n5)
  have HB2 := hide b2
  have HG2 := hide g2
  have q6 := g2.cell Q6.out n6
  have q10 := g2.cell Q10.out n10
  have hat2 : ∀ i, i < wd → W2.drew.cell? ⟨ab, p0 + i, none⟩ = some (.int .i32 (a x0 i)) := fun i hi => by
    have := g2.cell (HM1.out.at_ x0 i h0l hi) n4
    rw [HP0.out]; simpa using this
  have f0 : W2.cell? ⟨ob, oo, none⟩ = some (.int .i32 (x0 : Int)) := by
    simp only [World.cell?, HC2.out]
    have := HR.out 0 (by omega)
    rw [HX0.out, HO0.out]; exact this
  have hs1 : B1.size = nodes * 2 * wd := by rw [HB1e.out, spl_size (by rw [HCL.out, hBs]; omega), hBs]
  have hcp2 := run_copy_row (P := Yba.prog) W2.drew 44 44 3 21 bb (L + wd) wd cH ⟨ab, p0, none⟩ (T - p0) (cap6 - p0) B1 21 cs Yba.underlying44 Yba.size21 b2 (by rw [HCL.out]; exact (Nat.min_eq_right (by omega)).symm) (HSRC.out _ hat2) (by rw [HCL.out, hs1]; omega) HC1c.out
  clear b2 g2 hat2
  obtain ⟨B2, hB2⟩ : ∃ B2, B2 = spl B1 (L + wd) cs := ⟨_, rfl⟩
  have e1 : (List.take (L + wd) B1.toList ++ cs ++ List.drop (L + wd + cs.length) B1.toList).toArray = B2 := hB2.symm
  rw [e1] at hcp2
  clear e1
  have HBR : Hid (BRow B B2 L wd (a x0) (a x0)) := by
    show BRow _ _ _ _ _ _
    rw [hB2, HB1e.out]; exact brow_copy HCS.out (by rw [hBs]; exact hLn)
  clear hB2
  go_wp2_with fail
  go_region
  obtain ⟨W3, hW3⟩ : ∃ W3, W3 = W2.drew.setRow bb B2 := ⟨_, rfl⟩
  have g3 : GrX bb W2 W3 := by rw [hW3]; exact (GrX.of_gr (Gr.refl W2).drew).trans (grx_setRow _ _ _)
  have HB3 : Hid (W3.heap[bb]? = some (.cells B2 21 (0, 0))) := by show _ = _; rw [hW3]; exact setRow_heap _ _ _ _ 21 _ HB2.out
  rw [← hW3]
  have HG3 := hide (HG2.out.trans g3)
  clear hW3 g3 hcp2 f0 q6 q10
  have h1n : (1 : Int) ≤ (n : Int) := by omega
  have hnc : (n : Int) ≤ (capo : Int) := by omega
  obtain ⟨sa, hsa⟩ : ∃ sa, (if capo = 1 then some (⟨ob, oo, none⟩ : Addr) else some ⟨ob, oo + 1, none⟩) = sa := ⟨_, rfl⟩
  have HSA : Hid (1 < n → sa = some ⟨ob, oo + 1, none⟩) := fun h => by rw [← hsa, if_neg (by omega)]
  go_wp2_with fail
  clear hsa
  go_loopw [52] (fun s52 wr => ∃ (k : Nat) (Bk : Array Value) (lo hi : Nat → Int), k + 1 ≤ n ∧ s52 = .int .i64 k ∧ wr.heap[bb]? = some (.cells Bk 21 (0, 0)) ∧ BRow B Bk L wd lo hi ∧ (∀ j, j ∈ l.take (k + 1) → ∀ i, i < wd → lo i ≤ a j.val i ∧ a j.val i ≤ hi i) ∧ GrX bb W1 wr) (fun s52 _ => n - (intOf s52).toNat)
  case atStart =>
    refine ⟨0, B2, a x0, a x0, by omega, rfl, HB3.out, HBR.out, ?_, HG3.out⟩
    intro j hj i hi
    have e : l.take (0 + 1) = [o0] := by
      rw [HO0.out]
      cases l with
      | nil => simp at hln; omega
      | cons u v => simp
    rw [e] at hj
    simp at hj
    rw [hj, HX0.out]
    omega
  case round =>
    obtain ⟨k, Bk, lo, hi, hk, rfl, hbk, hbr, hbd, hgk⟩ := hrel
    have HBK := hide hbk
    have HBRk := hide hbr
    have HBD := hide hbd
    have HGK := hide hgk
    clear hbk hbr hbd hgk
    by_cases hlt : k + 1 < n
    · obtain rfl := HSA.out (by omega)
      have hki : (k : Int) < (n : Int) - 1 := by omega
      have hkn : (k : Int) < ((n - 1 : Nat) : Int) := by omega
      obtain ⟨y, hy⟩ : ∃ y : Fin (m + 1), y = l.getD (k + 1) 0 := ⟨_, rfl⟩
      obtain ⟨xk, hxk⟩ : ∃ xk, xk = y.val := ⟨_, rfl⟩
      have hxl : xk < m + 1 := by rw [hxk]; exact y.isLt
      have HCk := hide (HGK.out.block HC1.out n5)
      have f1 : wr.cell? ⟨ob, oo + 1 + k, none⟩ = some (.int .i32 (xk : Int)) := by
        simp only [World.cell?, HCk.out]
        have := HR.out (k + 1) (by omega)
        rw [hxk, hy, show oo + 1 + k = oo + (k + 1) by omega]; exact this
      have hpk := HT.out xk hxl
      obtain ⟨pk, hpke⟩ : ∃ pk, pk = xk * wd := ⟨_, rfl⟩
      have mpk : (xk : Int) * (wd : Int) = (pk : Int) := by rw [hpke]; simp
      have mpk2 : ((xk : Int) + 1) * (wd : Int) = (pk : Int) + (wd : Int) := by rw [Int.add_mul, mpk]; omega
      rw [← hpke] at hpk
      have wxk := HWR.out xk (by omega)
      have wpk := HWR.out pk (by omega)
      have epk : IntKind.i64.wrap ((xk : Int) * (wd : Int)) = pk := by rw [mpk]; exact wpk
      have epk2 : IntKind.i64.wrap (((xk : Int) + 1) * (wd : Int)) = (pk : Int) + (wd : Int) := by rw [mpk2]; exact_mod_cast HWR.out (pk + wd) (by omega)
      have zpk : (0 : Int) ≤ (pk : Int) := by omega
      have zpk2 : (pk : Int) + (wd : Int) ≤ (T : Int) := by omega
      have zpk3 : (pk : Int) ≤ (pk : Int) + (wd : Int) := by omega
      have zpk4 : (pk : Int) + (wd : Int) ≤ (cap6 : Int) := by omega
      have hif := HIF.out xk pk hpke hpk
      have q6 := HGK.out.cell Q6.out n6
      have q10 := HGK.out.cell Q10.out n10
      have HY := hide hy
      have HXK := hide hxk
      have HPK := hide hpke
      clear hy hxk hpke
      go_wp2_with fail
      go_loopw [68] (fun s68 wq => ∃ (c : Nat) (Bq : Array Value) (lo' hi' : Nat → Int), c ≤ wd ∧ s68 = .int .i64 c ∧ wq.heap[bb]? = some (.cells Bq 21 (0, 0)) ∧ BRow B Bq L wd lo' hi' ∧ (∀ j, j ∈ l.take (k + 1) → ∀ i, i < wd → lo' i ≤ a j.val i ∧ a j.val i ≤ hi' i) ∧ (∀ i, i < c → lo' i ≤ a xk i ∧ a xk i ≤ hi' i) ∧ GrX bb W1 wq) (fun s68 _ => wd - (intOf s68).toNat)
      case atStart => exact ⟨0, Bk, lo, hi, by omega, rfl, HBK.out, HBRk.out, HBD.out, fun i hi => by omega, HGK.out⟩
      case round =>
        obtain ⟨c, Bq, lo', hi', hc, rfl, hbq, hbr, hbd, hbx, hgq⟩ := hrel
        have HBQ := hide hbq
        have HBRq := hide hbr
        have HBDq := hide hbd
        have HBX := hide hbx
        have HGQ := hide hgq
        clear hbq hbr hbd hbx hgq
        by_cases hcw : c < wd
        · have hci : (c : Int) < (wd : Int) := by omega
          have a1 : wr.cell? ⟨ab, pk + c, none⟩ = some (.int .i32 (a xk c)) := by
            have := HGQ.out.cell (HM1.out.at_ xk c hxl hcw) n4
            rw [HPK.out]; exact this
          have l1 : wr.cell? ⟨bb, L + c, none⟩ = some (.int .i32 (lo' c)) := by
            simp only [World.cell?, HBQ.out]; exact HBRq.out.lo_ c hcw
          have l2 : wr.cell? ⟨bb, L + wd + c, none⟩ = some (.int .i32 (hi' c)) := by
            simp only [World.cell?, HBQ.out]; have := HBRq.out.hi_ c hcw; rwa [← Nat.add_assoc] at this
          have z1 : wr.frozen? ⟨bb, L + c, none⟩ = false := by simp [World.frozen?, HBQ.out]
          have z2 : wr.frozen? ⟨bb, L + wd + c, none⟩ = false := by simp [World.frozen?, HBQ.out]
          have hne : ¬ (L + wd + c = L + c) := by omega
          have hne2 : ¬ (L + c = L + wd + c) := by omega
          go_wp2_with fail
          refine ⟨⟨c + 1, (Bq.setIfInBounds (L + c) (.int .i32 (min (lo' c) (a xk c)))).setIfInBounds (L + (wd + c)) (.int .i32 (max (hi' c) (a xk c))), fun i => if i = c then min (lo' c) (a xk c) else lo' i, fun i => if i = c then max (hi' c) (a xk c) else hi' i, by omega, by go_num, ?_, (HBRq.out.setLo c hcw _).setHi c hcw _, ?_, ?_, ?_⟩, by simp [intOf]; omega⟩
          · rw [Nat.add_assoc]; exact set_block (set_block HBQ.out _) _
          · intro j hj i hi
            have := HBDq.out j hj i hi
            dsimp only
            by_cases e : i = c
            · subst e; rw [if_pos rfl, if_pos rfl]; omega
            · rw [if_neg e, if_neg e]; exact this
          · intro i hi
            dsimp only
            by_cases e : i = c
            · subst e; rw [if_pos rfl, if_pos rfl]; omega
            · rw [if_neg e, if_neg e]; exact HBX.out i (by omega)
          · exact (HGQ.out.trans (GrX.set _ _ _)).trans (GrX.set _ _ _)
        · obtain rfl : wd = c := by omega
          go_wp2_with fail
          refine ⟨⟨k + 1, Bq, lo', hi', by omega, by go_num, HBQ.out, HBRq.out, ?_, HGQ.out⟩, by simp [intOf]; omega⟩
          intro j hj i hi
          rw [List.take_add_one] at hj
          rcases List.mem_append.1 hj with hj | hj
          · exact HBDq.out j hj i hi
          · have e : l[k + 1]? = some y := by
              rw [HY.out, List.getElem?_eq_getElem (by omega)]
              simp [List.getElem?_eq_getElem, show k + 1 < l.length by omega]
            rw [e] at hj
            simp at hj
            subst hj
            rw [← HXK.out]
            exact HBX.out i hi
    · obtain rfl : n = k + 1 := by omega
      have HBND : Hid (Bnd wd a Bk node l) := fun i hi' => by
        refine ⟨lo i, hi i, ?_, ?_, fun j hj => HBD.out j (by rw [← hln, List.take_length]; exact hj) i hi'⟩
        · rw [← HL.out]; exact HBRk.out.lo_ i hi'
        · rw [← HL.out]; exact HBRk.out.hi_ i hi'
      have HSM : Hid (SameB wd B Bk (fun q => q = node)) := by
        have := HBRk.out
        rw [HL.out] at this
        exact this.same
      have q6 := HGK.out.cell Q6.out n6
      have q10 := HGK.out.cell Q10.out n10
      have HCk := hide (HGK.out.block HC1.out n5)
      have HGY : Hid (GrY ob bb w wr) := (GrY.of_gr HG1.out).trans (GrY.right HGK.out)
      by_cases hleaf : wd = 0 ∨ k + 1 ≤ 16
      · have HFIN : Hid (SplitPost ob oo bb wd node a l C B w (.returned (.tuple #[])) wr) := ⟨rfl, l, C, Bk, List.Perm.refl _, HCk.out, rfl, HR.out, fun _ _ => rfl, HBK.out, HSM.out.weak (by intro q hq; subst hq; exact Sub.self _), Tree.leaf HBND.out (by rw [hln]; exact hleaf), HGY.out⟩
        by_cases hw0 : wd = 0
        · have hwz : ((wd : Int) == 0) = true := by simp [hw0]
          go_wp2_with fail
          go_end0
          exact HFIN.out
        · have hwz : ((wd : Int) == 0) = false := by simp [hw0]
          have hle : (k : Int) + 1 ≤ 16 := by omega
          have hle2 : decide ((k : Int) + 1 ≤ 16) = true := by simpa using hle
          go_wp2_with fail
          go_end0
          exact HFIN.out
      · have hw0 : wd ≠ 0 := by omega
        have hwz : ((wd : Int) == 0) = false := by simp [hw0]
        have hle2 : decide ((k : Int) + 1 ≤ 16) = false := by simp; omega
        have hgt : ¬ ((k : Int) + 1 ≤ 16) := by omega
        obtain ⟨di, hdi⟩ : ∃ di, di = depth % wd := ⟨_, rfl⟩
        have hdl : di < wd := by rw [hdi]; exact Nat.mod_lt _ (by omega)
        have hm1 : (depth : Int) % (wd : Int) = (di : Int) := by rw [hdi]; simp
        have hm2 : Int.tmod (depth : Int) (wd : Int) = (di : Int) := by rw [Int.tmod_eq_emod_of_nonneg (by omega)]; exact hm1
        have hrem : ∀ W, (binOp .rem 3 (.int .i64 (depth : Int)) (.int .i64 (wd : Int))).run Yba.prog W = .ok (.int .i64 (di : Int)) W := by
          intro W
          rcases hwd with rfl | rfl | rfl
          · omega
          · have : Int.tmod (depth : Int) 2 = di := by simpa using hm2
            simp [go_sem, this]
          · have : Int.tmod (depth : Int) 4 = di := by simpa using hm2
            simp [go_sem, this]
        have HDI := hide hdi
        clear hdi hm2
        go_wp2_with fail
        obtain ⟨W4, hW4⟩ : ∃ W4, W4 = wr.alloc (.cells #[.int .i64 (di : Int)] 3) := ⟨_, rfl⟩
        have G4 : Gr wr W4 := by rw [hW4]; exact (Gr.refl _).alloc _
        have q17 : W4.cell? ⟨wr.heap.size, 0, none⟩ = some (.int .i64 (di : Int)) := by rw [hW4]; simp
        rw [← hW4]
        have hobk : ob < wr.heap.size := (Array.getElem?_eq_some_iff.1 HCk.out).1
        have hw4 : wd ≤ 4 := by omega
        have hsort := sort28 ob oo capo w.heap.size (w.heap.size + 1) wr.heap.size ab cap6 wd di m (fun j => a j di) l C W4 (G4.block HCk.out) (by omega) hm HR.out (by rw [HTe.out]; exact G4.cell q6) (G4.cell q10) q17 (fun j hj => G4.cell (HGK.out.cell (HM1.out.at_ j di hj hdl) n4)) hw4 hdl (by omega) (by omega) (by omega) n3
        rw [hln] at hsort
        refine hsort.mono ?_
        rintro _ W5 ⟨rfl, l5, C5, hp5, hC5, hs5, hR5, hO5, hG5⟩
        have HP5 := hide hp5
        have HC5 := hide hC5
        have HS5 := hide hs5
        have HR5 := hide hR5
        have HO5 := hide hO5
        have HG5 := hide hG5
        have HB5 := hide (hG5.block (G4.block HBK.out) (fun e => n5 e.symm))
        have q6' := hG5.cell (G4.cell q6) (by show w.heap.size ≠ ob; omega)
        have HGY5 : Hid (GrY ob bb w W5) := HGY.out.trans ((GrY.of_gr G4).trans (GrY.left hG5))
        clear hp5 hC5 hs5 hR5 hO5 hG5 hsort q17 q10 G4 hW4 hrem hm1
        have hl5 : l5.length = k + 1 := by rw [HP5.out.length_eq, hln]
        obtain ⟨hf, hhf⟩ : ∃ hf, hf = (k + 1) / 2 := ⟨_, rfl⟩
        have hfI : ((k : Int) + 1) / 2 = (hf : Int) := by omega
        have hfI2 : Int.tdiv ((k : Int) + 1) 2 = (hf : Int) := by rw [Int.tdiv_eq_ediv_of_nonneg (by omega)]; exact hfI
        have hf1 : 0 < hf := by omega
        have hf2 : hf < k + 1 := by omega
        have hf3 : (hf : Int) ≤ (capo : Int) := by omega
        have hf4 : (hf : Int) ≤ (k : Int) + 1 := by omega
        have hf5 : (k : Int) + 1 ≤ (capo : Int) := by omega
        have hf6 : ¬ (capo = hf) := by omega
        have hf0 : (0 : Int) ≤ (hf : Int) := by omega
        obtain ⟨nd1, hnd1⟩ : ∃ nd1, nd1 = 2 * node + 1 := ⟨_, rfl⟩
        obtain ⟨nd2, hnd2⟩ : ∃ nd2, nd2 = 2 * node + 2 := ⟨_, rfl⟩
        obtain ⟨dp, hdp⟩ : ∃ dp, dp = depth + 1 := ⟨_, rfl⟩
        have i1 : 2 * (node : Int) + 1 = (nd1 : Int) := by omega
        have i2 : 2 * (node : Int) + 2 = (nd2 : Int) := by omega
        have i3 : (depth : Int) + 1 = (dp : Int) := by omega
        have hrm := room_step (n' := hf) (HROOM.out hw0) (by omega) (by omega)
        have hrm2 := room_step (n' := k + 1 - hf) (HROOM.out hw0) (by omega) (by omega)
        have k1 : nd1 < nodes := by omega
        have k2 : nd2 < nodes := by omega
        have HK1 : Hid (∃ d, hf ≤ 16 * 2 ^ d ∧ (nd1 + 2) * 2 ^ d ≤ nodes + 1) := hrm.2 nd1 (by omega)
        have HK2 : Hid (∃ d, k + 1 - hf ≤ 16 * 2 ^ d ∧ (nd2 + 2) * 2 ^ d ≤ nodes + 1) := hrm2.2 nd2 (by omega)
        have HND1 := hide hnd1
        have HND2 := hide hnd2
        have HDP := hide hdp
        have HHF := hide hhf
        have hdp9 : dp + (k + 1) ≤ 2001 := by omega
        have hdp8 : dp ≤ 2000 := by omega
        have hnd9 : nd2 ≤ 200 := by omega
        have hbsz : Bk.size = nodes * 2 * wd := by rw [HSM.out.1, hBs]
        have v1 : IntKind.i64.wrap (2 * (node : Int)) = 2 * (node : Int) := by exact_mod_cast HWR.out (2 * node) (by omega)
        have v2 := HWR.out nd1 (by omega)
        have v3 := HWR.out nd2 (by omega)
        have v4 := HWR.out dp (by omega)
        clear hnd1 hnd2 hdp hhf hrm hrm2
        have HRl : Hid (∀ t, t < (l5.take hf).length → C5[oo + t]? = some (.int .i32 (((l5.take hf).getD t 0).val : Int))) := fun t ht => by
          have ht' : t < hf := by rw [List.length_take] at ht; omega
          have := HR5.out t (by omega)
          rw [this]
          congr 4
          simp [List.getD, List.getElem?_take_of_lt ht']
        have HCON1 := hide (fun W hM hC hB => IH.out hf hf2 (l5.take hf) (by rw [List.length_take]; omega) oo capo nd1 dp C5 Bk W (by omega) hf1 (by omega) (by omega) k1 (fun h => absurd h hw0) (fun _ => HK1.out) hM hC HRl.out hB hbsz)
        have HM5 := hide (HM.out.gry (HGY5.out.trans (GrY.of_gr (Gr.refl W5).drew)) n1 n2 n3 n4)
        go_wp2_with fail
        go_region_with (go_at_call 17; refine (HCON1.out _ HM5.out HC5.out HB5.out).mono ?_; rintro e W6 ⟨rfl, l6, C6, B6, hp6, hC6, hs6, hR6, hO6, hB6, hSB6, hT6, hG6⟩)
        have HP6 := hide hp6
        have HC6 := hide hC6
        have HS6 := hide hs6
        have HR6 := hide hR6
        have HO6 := hide hO6
        have HB6 := hide hB6
        have HSB6 := hide hSB6
        have HT6 := hide hT6
        have HG6 := hide ((GrY.of_gr (Gr.refl W5).drew).trans hG6)
        have q6'' := HG6.out.cell q6' (by show w.heap.size ≠ ob; omega) n6
        clear hp6 hC6 hs6 hR6 hO6 hB6 hSB6 hT6 hG6 q6' HCON1 HM5 q6
        have hbsz6 : B6.size = nodes * 2 * wd := by rw [HSB6.out.1, hbsz]
        have HRl2 : Hid (∀ t, t < (l5.drop hf).length → C6[oo + hf + t]? = some (.int .i32 (((l5.drop hf).getD t 0).val : Int))) := fun t ht => by
          rw [List.length_drop] at ht
          have := HR5.out (hf + t) (by omega)
          rw [HO6.out _ (by rw [List.length_take]; omega), Nat.add_assoc, this]
          congr 4
          simp [List.getD, List.getElem?_drop]
        have HCON2 := hide (fun W hM hC hB => IH.out (k + 1 - hf) (by omega) (l5.drop hf) (by rw [List.length_drop]; omega) (oo + hf) (capo - hf) nd2 dp C6 B6 W (by omega) (by omega) (by omega) (by omega) k2 (fun h => absurd h hw0) (fun _ => HK2.out) hM hC HRl2.out hB hbsz6)
        have HM6 := hide (HM.out.gry ((HGY5.out.trans HG6.out).trans (GrY.of_gr (Gr.refl W6).drew)) n1 n2 n3 n4)
        go_wp2_with fail
        go_region_with (go_at_call 17; refine (HCON2.out _ HM6.out HC6.out HB6.out).mono ?_; rintro e W7 ⟨rfl, l7, C7, B7, hp7, hC7, hs7, hR7, hO7, hB7, hSB7, hT7, hG7⟩)
        have HFIN : Hid (SplitPost ob oo bb wd node a l C B w (.returned (.tuple #[])) W7) := split_join hln HP5.out HHF.out (by omega) HND1.out HND2.out HP6.out hp7 HS5.out HS6.out hs7 HO5.out HO6.out hO7 HR6.out hR7 hC7 hB7 HSM.out HSB6.out hSB7 HBND.out HT6.out hT7 ((HGY5.out.trans HG6.out).trans ((GrY.of_gr (Gr.refl W6).drew).trans hG7))
        clear hp7 hs7 hO7 hR7 hC7 hB7 hSB7 hT7 hG7
        go_wp2_with fail
        go_end0
        exact HFIN.out
end Go.Proofs.Ybulkdcs
