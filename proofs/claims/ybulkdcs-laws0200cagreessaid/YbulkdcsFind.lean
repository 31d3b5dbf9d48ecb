import Derived.Test.YbulkdcsSplit
import Derived.Maps.AppendAt
import Derived.OwnWalk
namespace Go.Proofs.Ybulkdcs
open Go.Shelf Go.RowKit Go.Lib Go.Sort
set_option linter.unusedVariables false
set_option linter.unusedSimpArgs false

theorem Yba.info3 : (Yba.prog.info? 3).map (fun i => (i.zero, i.size, i.bytes)) = some (some (.int .i64 0), 1, 8) := by kernel_rfl

theorem grownBy.trans0 {a b c : World} {r : Option Nat} (h : a.grownBy b none) (k : b.grownBy c r) : a.grownBy c r :=
  ⟨k.os.trans h.os, k.tape.trans h.tape, k.output.trans h.output, Nat.le_trans h.size k.size, fun i hi hr => (k.block i (Nat.lt_of_lt_of_le hi h.size) hr).trans (h.block i hi (by simp))⟩
theorem Gr.none {a b : World} (h : Gr a b) : a.grownBy b none := ⟨h.below.os, h.below.tape, h.below.output, h.below.size, fun k hk _ => h.below.block k hk⟩

/-- A row of one's own was appended to: it lies where it lay, or in a new block. -/
def HK (w : World) (v : Value) (w' : World) (v' : Value) : Prop := w.grownBy w' v.ownBlock ∧ (v'.ownBlock = v.ownBlock ∨ ∀ b, v'.ownBlock = some b → w.heap.size ≤ b)
theorem HK.refl (w : World) (v : Value) : HK w v w v := ⟨⟨rfl, rfl, rfl, Nat.le_refl _, fun _ _ _ => rfl⟩, .inl rfl⟩
theorem HK.trans {a b c : World} {u v x : Value} (h : HK a u b v) (k : HK b v c x) : HK a u c x := by
  refine ⟨⟨k.1.os.trans h.1.os, k.1.tape.trans h.1.tape, k.1.output.trans h.1.output, Nat.le_trans h.1.size k.1.size, fun i hi hr => ?_⟩, ?_⟩
  · refine (k.1.block i (Nat.lt_of_lt_of_le hi h.1.size) ?_).trans (h.1.block i hi hr)
    rcases h.2 with e | e
    · rw [e]; exact hr
    · intro e2; have := e i e2.symm; omega
  · rcases k.2 with e | e
    · rcases h.2 with e3 | e3
      · exact .inl (e.trans e3)
      · exact .inr fun b hb => e3 b (e ▸ hb)
    · exact .inr fun b hb => Nat.le_trans h.1.size (e b hb)
theorem HK.of_gr {a b : World} {v : Value} (h : Gr a b) : HK a v b v := ⟨⟨h.below.os, h.below.tape, h.below.output, h.below.size, fun k hk _ => h.below.block k hk⟩, .inl rfl⟩
/-- One append, behind the block that holds the new. -/
theorem HK.app {a b c : World} {v v' : Value} (h : Gr a b) (g : b.grownBy c v.ownBlock) (k : v'.ownBlock = v.ownBlock ∨ v'.ownBlock = some b.heap.size) : HK a v c v' :=
  (HK.of_gr h).trans ⟨g, k.imp id fun e b' hb => by rw [e] at hb; cases hb; exact Nat.le_refl _⟩
theorem own_gr {a b : World} {base : Nat} {e : TypeId} {sz : Nat} {v : Value} {n : Nat} {xs : List Value} (h : a.ownsRow base e sz v n xs) (g : Gr a b) : b.ownsRow base e sz v n xs := by
  refine h.kept (row := none) g.none ?_
  cases hv : v.ownBlock with
  | none => exact .inl rfl
  | some k => exact .inr (by simp)

/-- A box, anywhere. -/
theorem box_o (b o bb nodes wd node : Nat) (w : World) (hwd : wd = 0 ∨ wd = 2 ∨ wd = 4) (h1 : w.cell? ⟨b, o + 1, none⟩ = some (.int .i64 wd)) (h8 : w.cell? ⟨b, o + 8, none⟩ = some (.slice (some ⟨bb, 0, none⟩) (nodes * 2 * wd) (nodes * 2 * wd))) (hn : node < nodes) (hnb : nodes ≤ 200) (hz : wd = 0 → node = 0) :
    Calls Yba.prog 22 #[.pointer (some ⟨b, o, none⟩), .int .i64 node] w fun e w' =>
      e = .returned (.tuple #[.slice (some ⟨bb, 2 * node * wd, none⟩) wd (nodes * 2 * wd - 2 * node * wd), .slice (some ⟨bb, 2 * node * wd + wd, none⟩) wd (nodes * 2 * wd - (2 * node * wd + wd))]) ∧ Gr w w' := by
  have e1 : 2 * node * wd + wd = (2 * node + 1) * wd := by rw [Nat.add_mul, Nat.one_mul]
  rw [e1]
  rcases hwd with rfl | rfl | rfl
  · obtain rfl := hz rfl
    exact box_0 b o bb w (by simpa using h1) (by simpa using h8)
  · exact box_2 b o bb (nodes * 2 * 2) node w h1 h8 (by omega) (by omega) (by omega)
  · exact box_4 b o bb (nodes * 2 * 4) node w h1 h8 (by omega) (by omega) (by omega)

/-- What find reads. -/
structure FindM (bt o sb gb bb lb wd nodes m : Nat) (a : Nat → Nat → Int) (sec : Nat → Int) (ord : List (Fin (m + 1))) (z : Nat → Int) (B : Array Value) (w : World) : Prop where
  f1 : w.cell? ⟨bt, o + 1, none⟩ = some (.int .i64 wd)
  f6 : w.cell? ⟨bt, o + 6, none⟩ = some (.slice (some ⟨sb, 0, none⟩) ord.length ord.length)
  f7 : w.cell? ⟨bt, o + 7, none⟩ = some (.slice (some ⟨gb, 0, none⟩) (ord.length * wd) (ord.length * wd))
  f8 : w.cell? ⟨bt, o + 8, none⟩ = some (.slice (some ⟨bb, 0, none⟩) (nodes * 2 * wd) (nodes * 2 * wd))
  s_ : ∀ t, t < ord.length → w.cell? ⟨sb, t, none⟩ = some (.int .i32 (sec (ord.getD t 0).val))
  a_ : ∀ t, t < ord.length → ∀ i, i < wd → w.cell? ⟨gb, t * wd + i, none⟩ = some (.int .i32 (a (ord.getD t 0).val i))
  b_ : ∀ j v, B[j]? = some v → w.cell? ⟨bb, j, none⟩ = some v
  z_ : ∀ i, i < wd → w.cell? ⟨lb, i, none⟩ = some (.int .i32 (z i))
  lt : bt < w.heap.size ∧ sb < w.heap.size ∧ gb < w.heap.size ∧ bb < w.heap.size ∧ lb < w.heap.size
/-- The row appended to is none of what find reads. -/
def Off (v : Value) (bt sb gb bb lb : Nat) : Prop := ∀ b, v.ownBlock = some b → b ≠ bt ∧ b ≠ sb ∧ b ≠ gb ∧ b ≠ bb ∧ b ≠ lb
theorem FindM.hk {bt o sb gb bb lb wd nodes m : Nat} {a : Nat → Nat → Int} {sec : Nat → Int} {ord : List (Fin (m + 1))} {z : Nat → Int} {B : Array Value} {w w' : World} {v v' : Value} (h : FindM bt o sb gb bb lb wd nodes m a sec ord z B w) (k : HK w v w' v') (hv : Off v bt sb gb bb lb) : FindM bt o sb gb bb lb wd nodes m a sec ord z B w' :=
  have hn : ∀ (p : Addr), (p.block = bt ∨ p.block = sb ∨ p.block = gb ∨ p.block = bb ∨ p.block = lb) → some p.block ≠ v.ownBlock := fun p hp e => by
    have := hv p.block e.symm
    omega
  ⟨k.1.cell h.f1 (hn _ (.inl rfl)), k.1.cell h.f6 (hn _ (.inl rfl)), k.1.cell h.f7 (hn _ (.inl rfl)), k.1.cell h.f8 (hn _ (.inl rfl)), fun t ht => k.1.cell (h.s_ t ht) (hn _ (.inr (.inl rfl))), fun t ht i hi => k.1.cell (h.a_ t ht i hi) (hn _ (.inr (.inr (.inl rfl)))), fun j x hx => k.1.cell (h.b_ j x hx) (hn _ (.inr (.inr (.inr (.inl rfl))))), fun i hi => k.1.cell (h.z_ i hi) (hn _ (.inr (.inr (.inr (.inr rfl))))),
    by have := k.1.size; have := h.lt; omega⟩
theorem Off.hk {bt o sb gb bb lb wd nodes m : Nat} {a : Nat → Nat → Int} {sec : Nat → Int} {ord : List (Fin (m + 1))} {z : Nat → Int} {B : Array Value} {w w' : World} {v v' : Value} (hv : Off v bt sb gb bb lb) (h : FindM bt o sb gb bb lb wd nodes m a sec ord z B w) (k : HK w v w' v') : Off v' bt sb gb bb lb := fun b hb => by
  rcases k.2 with e | e
  · exact hv b (e ▸ hb)
  · have := e b hb; have := h.lt; omega

/-- What find takes of a run of sections. -/
def picks {m : Nat} (wd : Nat) (a : Nat → Nat → Int) (sec : Nat → Int) (z : Nat → Int) (l : List (Fin (m + 1))) : List Value := (l.filter fun j => reachN wd (a j.val) z).map fun j => .int .i64 (sec j.val)

theorem Bnd.fn {m wd : Nat} {a : Nat → Nat → Int} {B : Array Value} {node : Nat} {l : List (Fin (m + 1))} (h : Bnd wd a B node l) : ∃ lo hi : Nat → Int, ∀ i, i < wd → B[2 * node * wd + i]? = some (.int .i32 (lo i)) ∧ B[2 * node * wd + (wd + i)]? = some (.int .i32 (hi i)) ∧ ∀ j ∈ l, lo i ≤ a j.val i ∧ a j.val i ≤ hi i := by
  have h' : ∀ i, ∃ p : Int × Int, i < wd → B[2 * node * wd + i]? = some (.int .i32 p.1) ∧ B[2 * node * wd + (wd + i)]? = some (.int .i32 p.2) ∧ ∀ j ∈ l, p.1 ≤ a j.val i ∧ a j.val i ≤ p.2 := fun i => by
    by_cases hi : i < wd
    · obtain ⟨lo, hi', h1, h2, h3⟩ := h i hi
      exact ⟨(lo, hi'), fun _ => ⟨h1, h2, h3⟩⟩
    · exact ⟨(0, 0), fun h => absurd h hi⟩
  obtain ⟨f, hf⟩ := Classical.skolem.1 h'
  exact ⟨fun i => (f i).1, fun i => (f i).2, hf⟩
theorem reachN_iff {n : Nat} {C L : Nat → Int} : reachN n C L = true ↔ ∀ i, i < n → L i ≤ C i := by simp [reachN]
theorem picks_none {m wd : Nat} {a : Nat → Nat → Int} {sec z hi : Nat → Int} {l : List (Fin (m + 1))} (h : ∀ i, i < wd → ∀ j ∈ l, a j.val i ≤ hi i) (hr : reachN wd hi z = false) : picks wd a sec z l = [] := by
  unfold picks
  rw [List.filter_eq_nil_iff.2, List.map_nil]
  intro j hj
  rw [Bool.not_eq_true]
  rw [← Bool.not_eq_true, reachN_iff] at hr ⊢
  intro h2
  exact hr fun i hi' => Int.le_trans (h2 i hi') (h i hi' j hj)
theorem picks_all {m wd : Nat} {a : Nat → Nat → Int} {sec z lo : Nat → Int} {l : List (Fin (m + 1))} (h : ∀ i, i < wd → ∀ j ∈ l, lo i ≤ a j.val i) (hr : reachN wd lo z = true) : picks wd a sec z l = l.map fun j => .int .i64 (sec j.val) := by
  unfold picks
  rw [List.filter_eq_self.2]
  intro j hj
  rw [reachN_iff] at hr ⊢
  exact fun i hi' => Int.le_trans (hr i hi') (h i hi' j hj)
theorem picks_append {m wd : Nat} {a : Nat → Nat → Int} {sec z : Nat → Int} (l l' : List (Fin (m + 1))) : picks wd a sec z (l ++ l') = picks wd a sec z l ++ picks wd a sec z l' := by simp [picks]
theorem picks_len {m wd : Nat} {a : Nat → Nat → Int} {sec z : Nat → Int} (l : List (Fin (m + 1))) : (picks wd a sec z l).length ≤ l.length := by
  unfold picks; rw [List.length_map]; exact List.length_filter_le _ _

set_option maxHeartbeats 8000000 in
set_option maxRecDepth 100000 in
theorem find_any (base bt o sb gb bb lb wd nodes m capl : Nat) (a : Nat → Nat → Int) (sec z : Nat → Int) (ord : List (Fin (m + 1))) (B : Array Value) (al : Option Addr) (hwd : wd = 0 ∨ wd = 2 ∨ wd = 4) (hm : m < 512) (hnodes : nodes ≤ 200) (hal : 0 < wd → al = some ⟨lb, 0, none⟩) (hol : ord.length ≤ 512) (hsec : ∀ j, 0 ≤ sec j ∧ sec j ≤ 512) :
    ∀ (n first node nv : Nat) (v : Value) (xs : List Value) (w : World) (hend : first + n ≤ ord.length) (hnv : nv + n ≤ 2000) (hnode : node < nodes) (hz : wd = 0 → node = 0) (hroom : wd ≠ 0 → ∃ d, n ≤ 16 * 2 ^ d ∧ (node + 2) * 2 ^ d ≤ nodes + 1)
      (hM : FindM bt o sb gb bb lb wd nodes m a sec ord z B w) (hv : Off v bt sb gb bb lb) (hown : w.ownsRow base 3 1 v nv xs) (hbase : base ≤ w.heap.size) (hT : Tree wd a B node ((ord.drop first).take n)),
      Calls Yba.prog 12 #[.pointer (some ⟨bt, o, none⟩), .slice al wd capl, .int .i64 node, .int .i64 first, .int .i64 ((first + n : Nat) : Int), v] w fun e w' => ∃ v', e = .returned v' ∧
        w'.ownsRow base 3 1 v' (nv + (picks wd a sec z ((ord.drop first).take n)).length) (xs ++ picks wd a sec z ((ord.drop first).take n)) ∧ HK w v w' v' := by
  intro n
  induction n using Nat.strongRecOn with
  | _ n ih =>
  intro first node nv v xs w hend hnv hnode hz hroom hM hv hown hbase hT
  obtain ⟨E, hE⟩ : ∃ E, E = first + n := ⟨_, rfl⟩
  rw [← hE]
  obtain ⟨i0, hi, hz0, hz1, hz2⟩ := info_parts Yba.info3
  have IH := hide ih
  have HM := hide hM
  have HV := hide hv
  have HO := hide hown
  have HT := hide hT
  have HROOM := hide hroom
  have HZ := hide hz
  have HAL := hide hal
  have HSEC := hide hsec
  have HE := hide hE
  clear ih hM hv hown hT hroom hz hal hsec hE
  have f1 := HM.out.f1
  obtain ⟨sg, hsg⟩ : ∃ sg, sg = (ord.drop first).take n := ⟨_, rfl⟩
  have hsl : sg.length = n := by rw [hsg, List.length_take, List.length_drop]; omega
  rw [← hsg] at HT ⊢
  have HSG := hide hsg
  clear hsg
  have hbnd : Bnd wd a B node sg := by cases HT.out <;> assumption
  obtain ⟨lo, hi', hbf⟩ := hbnd.fn
  have HBF := hide hbf
  clear hbnd hbf
  go_enter Yba.func12, Yba.ntmps12
  go_wp2_with fail
  refine (box_o bt o bb nodes wd node w hwd HM.out.f1 HM.out.f8 hnode hnodes HZ.out).mono ?_
  rintro _ W1 ⟨rfl, hG1⟩
  have HG1 := hide hG1
  have HM1 := hide (HM.out.hk (HK.of_gr (v := v) hG1) HV.out)
  have HO1 := hide (own_gr HO.out hG1)
  clear hG1 f1
  generalize nodes * 2 * wd - 2 * node * wd = cL
  generalize nodes * 2 * wd - (2 * node * wd + wd) = cH
  go_wp2_with fail
  refine (reaches_any _ al bb (2 * node * wd + wd) wd cH lb 0 wd capl hi' z W1 (by omega) (Nat.le_refl _) (by omega) (fun _ => rfl) HAL.out (fun i hi => HM1.out.b_ _ _ (by rw [Nat.add_assoc]; exact (HBF.out i hi).2.1)) (fun i hi => by rw [Nat.zero_add]; exact HM1.out.z_ i hi)).mono ?_
  rintro _ W1' ⟨rfl, hw1⟩
  obtain rfl := hw1.symm
  cases hr1 : reachN wd hi' z with
  | false =>
    have HP := hide (picks_none (sec := sec) (fun i hi j hj => ((HBF.out i hi).2.2 j hj).2) hr1)
    go_wp2_with fail
    go_ret
    exact ⟨v, rfl, by rw [HP.out]; simpa using HO1.out, HK.of_gr HG1.out⟩
  | true =>
    go_wp2_with fail
    refine (reaches_any _ al bb (2 * node * wd) wd cL lb 0 wd capl lo z W1 (by omega) (Nat.le_refl _) (by omega) (fun _ => rfl) HAL.out (fun i hi => HM1.out.b_ _ _ (HBF.out i hi).1) (fun i hi => by rw [Nat.zero_add]; exact HM1.out.z_ i hi)).mono ?_
    rintro _ W1' ⟨rfl, hw1⟩
    obtain rfl := hw1.symm
    cases hr2 : reachN wd lo z with
    | true =>
      have HP := hide (picks_all (sec := sec) (fun i hi j hj => ((HBF.out i hi).2.2 j hj).1) hr2)
      have f6 := HM1.out.f6
      have e1 : (0 : Int) ≤ (first : Int) := by omega
      have e2 : (first : Int) ≤ (E : Int) := by have := HE.out; omega
      have e3 : (E : Int) ≤ (ord.length : Int) := by have := HE.out; omega
      have e4 : E - first = n := by have := HE.out; omega
      obtain ⟨sa, hsa⟩ : ∃ sa, (if ord.length = first then some (⟨sb, 0, none⟩ : Addr) else some ⟨sb, first, none⟩) = sa := ⟨_, rfl⟩
      have HSA : Hid (0 < n → sa = some ⟨sb, first, none⟩) := fun h => by rw [← hsa, if_neg (by omega)]
      go_wp2_with fail
      clear hsa
      go_loopw [5, 46] (fun s5 s46 wr => ∃ k : Nat, k ≤ n ∧ s46 = .int .i64 k ∧ wr.ownsRow base 3 1 s5 (nv + k) (xs ++ (sg.take k).map fun j => .int .i64 (sec j.val)) ∧ HK W1 v wr s5) (fun _ s46 _ => n - (intOf s46).toNat)
      case atStart => exact ⟨0, by omega, rfl, by simpa using HO1.out, HK.refl _ _⟩
      case round =>
        obtain ⟨k, hk, rfl, how, hhk⟩ := hrel
        have HOW := hide how
        have HHK := hide hhk
        clear how hhk
        by_cases hlt : k < n
        · obtain rfl := HSA.out (by omega)
          have hkn : (k : Int) < (n : Int) := by omega
          obtain ⟨y, hy⟩ : ∃ y, y = sg.getD k 0 := ⟨_, rfl⟩
          have HTK : Hid (sg.take (k + 1) = sg.take k ++ [y]) := by
            show _ = _
            rw [List.take_add_one, hy, List.getElem?_eq_getElem (by omega)]
            simp [List.getD, List.getElem?_eq_getElem, show k < sg.length by omega]
          have c1 := (HM1.out.hk HHK.out HV.out).s_ (first + k) (by omega)
          have e5 : ord.getD (first + k) 0 = y := by
            rw [hy, HSG.out]
            simp [List.getD, List.getElem?_take_of_lt hlt, List.getElem?_drop]
          rw [e5] at c1
          have hq := HSEC.out y.val
          generalize hqe : sec y.val = q at *
          have HQ := hide hqe
          have wq : IntKind.i64.wrap q = q := by simp [IntKind.wrap, IntKind.bits, IntKind.signed]; omega
          clear hqe hy e5
          go_wp2_with (at_builtin; refine wpList_append_own_at _ rfl (.tmp 50) (.tmp 53) 27 rfl base 3 i0 _ 1 8 Yba.underlying27 hi hz0 hz1 hz2 rfl (by decide) _ (nv + k) _ rfl (HOW.out.alloc _) ⟨wr.heap.size, 0, none⟩ 1 1 [.int .i64 q] rfl rfl (cell_one_new _ _ _) (by intro u hu; simp at hu; subst hu; rfl) (by unfold maxLen; omega) (by omega) (by have := HHK.out.1.size; have := HG1.out.size; simp; omega) ?_)
          intro v3 w3 hown3 hg3 _ hat3
          have H3 := hide hown3
          have K3 := hide (HHK.out.trans (HK.app ((Gr.refl wr).alloc _) hg3 (by simpa using hat3)))
          clear hown3 hg3 hat3
          go_wp2_with fail
          go_roundw
          case rel =>
            refine ⟨k + 1, by omega, by go_num, ?_, K3.out⟩
            rw [HTK.out]
            have := H3.out
            rw [← HQ.out] at this
            simpa [List.map_take, Nat.add_assoc] using this
          case measure => simp [intOf]; omega
        · obtain rfl : k = n := by omega
          go_wp2_with fail
          go_ret
          refine ⟨_, rfl, ?_, (HK.of_gr HG1.out).trans HHK.out⟩
          have := HOW.out
          rw [← hsl, List.take_length] at this
          rw [HP.out, List.length_map]; exact this
    | false =>
      have hw0 : wd ≠ 0 := by intro e; rw [e] at hr2; simp [reachN] at hr2
      have f7 := HM1.out.f7
      have f6 := HM1.out.f6
      obtain rfl := HAL.out (by omega)
      have e1 : (E : Int) - (first : Int) = (n : Int) := by have := HE.out; omega
      by_cases hleaf : n ≤ 16
      · have hle : (n : Int) ≤ 16 := by omega
        have hle2 : decide ((n : Int) ≤ 16) = true := by simpa using hle
        go_wp2_with fail
        go_loopw [5, 18] (fun s5 s18 wr => ∃ k j : Nat, k ≤ n ∧ j = first + k ∧ s18 = .int .i64 j ∧ wr.ownsRow base 3 1 s5 (nv + (picks wd a sec z (sg.take k)).length) (xs ++ picks wd a sec z (sg.take k)) ∧ HK W1 v wr s5) (fun _ s18 _ => E - (intOf s18).toNat)
        case atStart => exact ⟨0, first, by omega, by omega, rfl, by simpa [picks] using HO1.out, HK.refl _ _⟩
        case round =>
          obtain ⟨k, j, hk, hjk, rfl, how, hhk⟩ := hrel
          have HOW := hide how
          have HHK := hide hhk
          have HJK := hide hjk
          have hjE := HE.out
          clear how hhk
          by_cases hlt : k < n
          · have hjl : (j : Int) < (E : Int) := by omega
            have hjo : j < ord.length := by omega
            have hjoI : (j : Int) < (ord.length : Int) := by omega
            obtain ⟨y, hy⟩ : ∃ y, y = sg.getD k 0 := ⟨_, rfl⟩
            have HTK : Hid (sg.take (k + 1) = sg.take k ++ [y]) := by
              show _ = _
              rw [List.take_add_one, hy, List.getElem?_eq_getElem (by omega)]
              simp [List.getD, List.getElem?_eq_getElem, show k < sg.length by omega]
            have HMk := hide (HM1.out.hk HHK.out HV.out)
            have c1 := HMk.out.s_ j hjo
            have e5 : ord.getD j 0 = y := by
              rw [hy, HSG.out, hjk]
              simp [List.getD, List.getElem?_take_of_lt hlt, List.getElem?_drop]
            rw [e5] at c1
            have HCA : Hid (∀ i, i < wd → wr.cell? ⟨gb, j * wd + i, none⟩ = some (.int .i32 (a y.val i))) := fun i hi => by
              have := HMk.out.a_ j hjo i hi
              rw [e5] at this; exact this
            have hq := HSEC.out y.val
            have HPY : Hid (picks wd a sec z (sg.take (k + 1)) = picks wd a sec z (sg.take k) ++ if reachN wd (a y.val) z then [.int .i64 (sec y.val)] else []) := by
              show _ = _
              rw [HTK.out, picks_append]
              congr 1
              cases h : reachN wd (a y.val) z <;> simp [picks, h]
            generalize sec y.val = q at *
            have hpl : (picks wd a sec z (sg.take k)).length ≤ k := by have := picks_len (wd := wd) (a := a) (sec := sec) (z := z) (sg.take k); rw [List.length_take] at this; omega
            generalize picks wd a sec z (sg.take k) = pk at *
            have wq : IntKind.i64.wrap q = q := by simp [IntKind.wrap, IntKind.bits, IntKind.signed]; omega
            clear hy e5
            have wr_ : ∀ n : Nat, n ≤ 3000 → IntKind.i64.wrap (n : Int) = n := fun n hn => by simp [IntKind.wrap, IntKind.bits, IntKind.signed]; omega
            have hT9 : ord.length * wd ≤ 2048 := Nat.le_trans (Nat.mul_le_mul hol (show wd ≤ 4 by omega)) (by omega)
            have hpj : j * wd + wd ≤ ord.length * wd := by
              have := Nat.mul_le_mul_right wd (show j + 1 ≤ ord.length by omega)
              rwa [Nat.add_mul, Nat.one_mul] at this
            have mj : (j : Int) * (wd : Int) = ((j * wd : Nat) : Int) := by simp
            generalize j * wd = pj at *
            have mj2 : ((j : Int) + 1) * (wd : Int) = (pj : Int) + (wd : Int) := by rw [Int.add_mul, mj]; omega
            generalize ord.length * wd = T at *
            have w1 := wr_ pj (by omega)
            have w2 : IntKind.i64.wrap ((j : Int) * (wd : Int)) = pj := by rw [mj]; exact w1
            have w3 : IntKind.i64.wrap (((j : Int) + 1) * (wd : Int)) = (pj : Int) + (wd : Int) := by rw [mj2]; exact_mod_cast wr_ (pj + wd) (by omega)
            have w4 : IntKind.i64.wrap ((j : Int) + 1) = (j : Int) + 1 := by exact_mod_cast wr_ (j + 1) (by omega)
            have u1 : (0 : Int) ≤ (pj : Int) := by omega
            have u2 : (pj : Int) + (wd : Int) ≤ (T : Int) := by omega
            have u3 : (pj : Int) ≤ (pj : Int) + (wd : Int) := by omega
            have hne : ¬ (T = pj) := by omega
            have f6 := HMk.out.f6
            have f7' : wr.cell? ⟨bt, o + 7, none⟩ = some (.slice (some ⟨gb, 0, none⟩) T T) := by
              have := HHK.out.1.cell f7 (by intro e; exact (HV.out bt e.symm).1 rfl)
              exact this
            clear f7
            have hcw : (pj + wd) - pj = wd := by omega
            have hjb : j ≤ 512 := by omega
            clear hjk hjE wr_
            go_wp2_with fail
            refine (reaches_any _ _ gb pj wd _ lb 0 wd capl (a y.val) z wr (by omega) (Nat.le_refl _) (by omega) (fun _ => rfl) (fun _ => rfl) HCA.out (fun i hi => by rw [Nat.zero_add]; exact HMk.out.z_ i hi)).mono ?_
            rintro _ W1' ⟨rfl, hw1⟩
            obtain rfl := hw1.symm
            clear hw1
            cases hrk : reachN wd (a y.val) z with
            | true =>
              rw [hrk] at HPY
              go_wp2_with (at_builtin; refine wpList_append_own_at _ rfl (.tmp 81) (.tmp 90) 27 rfl base 3 i0 _ 1 8 Yba.underlying27 hi hz0 hz1 hz2 rfl (by decide) _ (nv + pk.length) _ rfl (HOW.out.alloc _) ⟨wr.heap.size, 0, none⟩ 1 1 [.int .i64 q] rfl rfl (cell_one_new _ _ _) (by intro u hu; simp at hu; subst hu; rfl) (by unfold maxLen; omega) (by omega) (by have := HHK.out.1.size; have := HG1.out.size; simp; omega) ?_)
              intro v3 w3 hown3 hg3 _ hat3
              have H3 := hide hown3
              have K3 := hide (HHK.out.trans (HK.app ((Gr.refl wr).alloc _) hg3 (by simpa using hat3)))
              clear hown3 hg3 hat3
              go_wp2_with fail
              go_roundw
              case rel =>
                refine ⟨k + 1, j + 1, by omega, by have := HJK.out; omega, by go_num, ?_, K3.out⟩
                rw [HPY.out]
                have := H3.out
                simpa [Nat.add_assoc] using this
              case measure => simp [intOf]; omega
            | false =>
              rw [hrk] at HPY
              go_wp2_with fail
              go_roundw
              case rel =>
                refine ⟨k + 1, j + 1, by omega, by have := HJK.out; omega, by go_num, ?_, HHK.out⟩
                rw [HPY.out]
                have := HOW.out
                simpa using this
              case measure => simp [intOf]; omega
          · have hjl : ¬ ((j : Int) < (E : Int)) := by omega
            obtain rfl : k = n := by omega
            clear hjk hjE
            go_wp2_with fail
            go_ret
            refine ⟨_, rfl, ?_, (HK.of_gr HG1.out).trans HHK.out⟩
            have := HOW.out
            rw [← hsl, List.take_length] at this
            exact this
      · have hle : ¬ ((n : Int) ≤ 16) := by omega
        have hle2 : decide ((n : Int) ≤ 16) = false := by simp; omega
        obtain ⟨hf, hhf⟩ : ∃ hf, hf = n / 2 := ⟨_, rfl⟩
        have hfI : (n : Int) / 2 = (hf : Int) := by omega
        have hfI2 : Int.tdiv (n : Int) 2 = (hf : Int) := by rw [Int.tdiv_eq_ediv_of_nonneg (by omega)]; exact hfI
        obtain ⟨mid, hmid⟩ : ∃ mid, mid = first + hf := ⟨_, rfl⟩
        have i0' : (first : Int) + (hf : Int) = (mid : Int) := by omega
        obtain ⟨nd1, hnd1⟩ : ∃ nd1, nd1 = 2 * node + 1 := ⟨_, rfl⟩
        obtain ⟨nd2, hnd2⟩ : ∃ nd2, nd2 = 2 * node + 2 := ⟨_, rfl⟩
        have i1 : 2 * (node : Int) + 1 = (nd1 : Int) := by omega
        have i2 : 2 * (node : Int) + 2 = (nd2 : Int) := by omega
        have hrm := room_step (n' := hf) (HROOM.out hw0) (by omega) (by omega)
        have hrm2 := room_step (n' := n - hf) (HROOM.out hw0) (by omega) (by omega)
        have k1 : nd1 < nodes := by omega
        have k2 : nd2 < nodes := by omega
        have HK1 : Hid (∃ d, hf ≤ 16 * 2 ^ d ∧ (nd1 + 2) * 2 ^ d ≤ nodes + 1) := hrm.2 nd1 (by omega)
        have HK2 : Hid (∃ d, n - hf ≤ 16 * 2 ^ d ∧ (nd2 + 2) * 2 ^ d ≤ nodes + 1) := hrm2.2 nd2 (by omega)
        have eA : sg.take hf = (ord.drop first).take hf := by rw [HSG.out, List.take_take, Nat.min_eq_left (by omega)]
        have eB : sg.drop hf = (ord.drop mid).take (n - hf) := by rw [HSG.out, List.drop_take, List.drop_drop, hmid]
        have HTT : Hid (Tree wd a B nd1 ((ord.drop first).take hf) ∧ Tree wd a B nd2 ((ord.drop mid).take (n - hf))) := by
          have hT := HT.out
          cases hT with
          | leaf hb hl => omega
          | node hb hl h1 h2 =>
            rw [hsl, ← hhf] at h1 h2
            rw [hnd1, hnd2, ← eA, ← eB]
            exact ⟨h1, h2⟩
        have HSP : Hid (picks wd a sec z sg = picks wd a sec z ((ord.drop first).take hf) ++ picks wd a sec z ((ord.drop mid).take (n - hf))) := by
          show _ = _
          rw [← eA, ← eB, ← picks_append, List.take_append_drop]
        have hpl : (picks wd a sec z ((ord.drop first).take hf)).length ≤ hf := Nat.le_trans (picks_len _) (by rw [List.length_take]; omega)
        have HE1 : Hid (E = mid + (n - hf)) := by show _ = _; have := HE.out; omega
        have HE2 := hide hmid
        have hf1 : hf < n := by omega
        have hf2 : n - hf < n := by omega
        have hmb : mid + (n - hf) ≤ ord.length := by omega
        have hmb1 : first + hf ≤ ord.length := by omega
        have HCON1 := hide (IH.out hf hf1 first nd1 nv v xs W1 hmb1 (by omega) k1 (fun h => absurd h hw0) (fun _ => HK1.out) HM1.out HV.out HO1.out (by have := HG1.out.size; omega) HTT.out.1)
        rw [← hmid] at HCON1
        have hmid9 : mid ≤ 512 := by omega
        have hnd9 : nd2 ≤ 200 := by omega
        clear eA eB hmid hhf hnd1 hnd2 hrm hrm2 f6 f7
        go_wp2_with fail
        refine HCON1.out.mono ?_
        rintro _ W2 ⟨v2, rfl, hown2, hhk2⟩
        have HO2 := hide hown2
        have HK2' := hide hhk2
        clear hown2 hhk2 HCON1
        generalize picks wd a sec z ((ord.drop first).take hf) = pA at *
        have HCON2 := hide (IH.out (n - hf) hf2 mid nd2 (nv + pA.length) v2 (xs ++ pA) W2 hmb (by omega) k2 (fun h => absurd h hw0) (fun _ => HK2.out) (HM1.out.hk HK2'.out HV.out) (HV.out.hk HM1.out HK2'.out) HO2.out (by have := HK2'.out.1.size; have := HG1.out.size; omega) HTT.out.2)
        rw [← HE1.out] at HCON2
        go_wp2_with fail
        refine HCON2.out.mono ?_
        rintro _ W3 ⟨v3, rfl, hown3, hhk3⟩
        have HFIN : Hid (W3.ownsRow base 3 1 v3 (nv + (picks wd a sec z sg).length) (xs ++ picks wd a sec z sg)) := by
          show World.ownsRow _ _ _ _ _ _ _
          rw [HSP.out, List.length_append, ← List.append_assoc, ← Nat.add_assoc]; exact hown3
        have HKF : Hid (HK w v W3 v3) := (HK.of_gr HG1.out).trans (HK2'.out.trans hhk3)
        clear hown3 hhk3 HCON2
        go_wp2_with fail
        go_ret
        exact ⟨_, rfl, HFIN.out, HKF.out⟩
end Go.Proofs.Ybulkdcs
