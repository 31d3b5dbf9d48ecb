import Derived.Test.YbulkdcsBase
namespace Go.Proofs.Ybulkdcs
open Go.Shelf Go.RowKit Go.Lib Go.Sort
set_option linter.unusedVariables false
set_option linter.unusedSimpArgs false

/-- A section as the law makes it. -/
structure Sec where
  tl : Bool
  al : Bool
  nb : Bool
  ad : Int
  off : Int
  sz : Int
def Sec.flags (s : Sec) : Int := if s.al then (if s.tl then 1026 else 2) else (if s.tl then 1024 else 0)
def Sec.ty (s : Sec) : Int := if s.nb then 8 else 1
def Sec.kind (s : Sec) : Int := (if s.tl then 1 else 0) + (if s.al then 2 else 0) + (if s.nb then 4 else 0) + (if s.sz = 0 then 8 else 0)
def Word (x : Int) : Prop := 0 ≤ x ∧ x < 18446744073709551616
structure Sec.ok (s : Sec) : Prop where
  ad : Word s.ad
  off : Word s.off
  sz : Word s.sz
theorem Sec.kind_bd (s : Sec) : 0 ≤ s.kind ∧ s.kind < 16 := by
  unfold Sec.kind
  split <;> split <;> split <;> split <;> omega

/-- The section's cells that are read. -/
structure SecAt (w : World) (b o : Nat) (s : Sec) : Prop where
  c1 : w.cell? ⟨b, o + 1, none⟩ = some (.int .u32 s.ty)
  c2 : w.cell? ⟨b, o + 2, none⟩ = some (.int .u64 s.flags)
  c3 : w.cell? ⟨b, o + 3, none⟩ = some (.int .u64 s.ad)
  c4 : w.cell? ⟨b, o + 4, none⟩ = some (.int .u64 s.off)
  c5 : w.cell? ⟨b, o + 5, none⟩ = some (.int .u64 s.sz)
theorem SecAt.gr {w w' : World} {b o : Nat} {s : Sec} (h : SecAt w b o s) (g : Gr w w') : SecAt w' b o s := ⟨g.cell h.c1, g.cell h.c2, g.cell h.c3, g.cell h.c4, g.cell h.c5⟩

theorem f_and : bits .and .u64 0 1024 = 0 ∧ bits .and .u64 2 1024 = 0 ∧ bits .and .u64 1024 1024 = 1024 ∧ bits .and .u64 1026 1024 = 1024 ∧ bits .and .u64 0 2 = 0 ∧ bits .and .u64 2 2 = 2 ∧ bits .and .u64 1024 2 = 0 ∧ bits .and .u64 1026 2 = 2 := by decide +kernel
theorem k_or : bits .or .u8 0 1 = 1 ∧ bits .or .u8 0 2 = 2 ∧ bits .or .u8 1 2 = 3 ∧ bits .or .u8 0 4 = 4 ∧ bits .or .u8 1 4 = 5 ∧ bits .or .u8 2 4 = 6 ∧ bits .or .u8 3 4 = 7 ∧
    bits .or .u8 0 8 = 8 ∧ bits .or .u8 1 8 = 9 ∧ bits .or .u8 2 8 = 10 ∧ bits .or .u8 3 8 = 11 ∧ bits .or .u8 4 8 = 12 ∧ bits .or .u8 5 8 = 13 ∧ bits .or .u8 6 8 = 14 ∧ bits .or .u8 7 8 = 15 := by decide +kernel

set_option maxHeartbeats 4000000 in
theorem kindOf_any (b o : Nat) (s : Sec) (w : World) (h : SecAt w b o s) :
    Calls Yba.prog 7 #[.pointer (some ⟨b, o, none⟩)] w fun e w' => e = .returned (.int .u8 s.kind) ∧ w' = w := by
  obtain ⟨c1, c2, c3, c4, c5⟩ := h
  obtain ⟨tl, al, nb, ad, off, sz⟩ := s
  obtain ⟨f1, f2, f3, f4, f5, f6, f7, f8⟩ := f_and
  obtain ⟨o1, o2, o3, o4, o5, o6, o7, o8, o9, o10, o11, o12, o13, o14, o15⟩ := k_or
  simp only [Sec.flags, Sec.ty, Sec.kind] at *
  by_cases hz : sz = 0
  · subst hz
    cases tl <;> cases al <;> cases nb
    all_goals
      simp only [if_true, if_false, Bool.false_eq_true] at *
      go_enter Yba.func7, Yba.ntmps7
      go_wp2
      go_ret
      exact ⟨rfl, rfl⟩
  · have hz' : (sz == 0) = false := by simpa using hz
    simp only [if_neg hz]
    clear hz
    cases tl <;> cases al <;> cases nb
    all_goals
      simp only [if_true, if_false, Bool.false_eq_true] at *
      go_enter Yba.func7, Yba.ntmps7
      go_wp2
      go_ret
      exact ⟨rfl, rfl⟩

/-- The bits of a kind that are asked. -/
def kT (k : Int) : Bool := bits .and .u8 k 1 != 0
def kA (k : Int) : Bool := bits .and .u8 k 2 != 0
def kN (k : Int) : Bool := bits .and .u8 k 4 == 0
def kE (k : Int) : Bool := bits .and .u8 k 8 != 0

/-- '(p Segment) takes(k)'. -/
def takesB (t k : Int) : Bool :=
  if t = 6 then false else if t = 7 then kT k else if t = 1 ∨ t = 1685382482 then kA k && (!kT k || kN k)
  else if t = 2 ∨ t = 1685382480 ∨ t = 1685382481 then kA k && !kT k else !kT k

/-- A segment. -/
structure Seg where
  t : Int
  fl : Int
  off : Int
  va : Int
  pa : Int
  fs : Int
  ms : Int
  al : Int
def Seg.arr (p : Seg) : Array Value := #[.int .u32 p.t, .int .u32 p.fl, .int .u64 p.off, .int .u64 p.va, .int .u64 p.pa, .int .u64 p.fs, .int .u64 p.ms, .int .u64 p.al]
structure Seg.ok (p : Seg) : Prop where
  off : Word p.off
  va : Word p.va
  fs : Word p.fs
  ms : Word p.ms

set_option maxHeartbeats 8000000 in
theorem takes_int (t fl off va pa fs ms al k : Int) (w : World) :
    Calls Yba.prog 9 #[.agg #[.int .u32 t, .int .u32 fl, .int .u64 off, .int .u64 va, .int .u64 pa, .int .u64 fs, .int .u64 ms, .int .u64 al], .int .u8 k] w fun e w' => e = .returned (.bool (takesB t k)) ∧ Gr w w' := by
  unfold takesB
  obtain ⟨bT, hT⟩ : ∃ b, kT k = b := ⟨_, rfl⟩
  obtain ⟨bA, hA⟩ : ∃ b, kA k = b := ⟨_, rfl⟩
  obtain ⟨bN, hN⟩ : ∃ b, kN k = b := ⟨_, rfl⟩
  rw [hT, hA, hN]
  unfold kT at hT
  unfold kA at hA
  unfold kN at hN
  by_cases t6 : t = 6
  · subst t6
    rw [if_pos rfl]
    go_enter Yba.func9, Yba.ntmps9
    go_wp2
    go_ret
    exact ⟨rfl, (Gr.refl _).alloc _⟩
  rw [if_neg t6]
  have t6' : (t == 6) = false := by simpa using t6
  clear t6
  by_cases t7 : t = 7
  · subst t7
    rw [if_pos rfl]
    go_enter Yba.func9, Yba.ntmps9
    go_wp2
    go_ret
    exact ⟨rfl, (Gr.refl _).alloc _⟩
  rw [if_neg t7]
  have t7' : (t == 7) = false := by simpa using t7
  clear t7
  by_cases t1 : t = 1
  · subst t1
    rw [if_pos (Or.inl rfl)]
    cases bA <;> cases bT
    all_goals
      go_enter Yba.func9, Yba.ntmps9
      go_wp2
      go_ret
      exact ⟨rfl, (Gr.refl _).alloc _⟩
  have t1' : (t == 1) = false := by simpa using t1
  by_cases tR : t = 1685382482
  · subst tR
    rw [if_pos (Or.inr rfl)]
    cases bA <;> cases bT
    all_goals
      go_enter Yba.func9, Yba.ntmps9
      go_wp2
      go_ret
      exact ⟨rfl, (Gr.refl _).alloc _⟩
  have tR' : (t == 1685382482) = false := by simpa using tR
  rw [if_neg (by omega)]
  clear t1 tR
  by_cases t2 : t = 2
  · subst t2
    rw [if_pos (Or.inl rfl)]
    cases bA
    all_goals
      go_enter Yba.func9, Yba.ntmps9
      go_wp2
      go_ret
      exact ⟨rfl, (Gr.refl _).alloc _⟩
  have t2' : (t == 2) = false := by simpa using t2
  by_cases t3 : t = 1685382480
  · subst t3
    rw [if_pos (Or.inr (Or.inl rfl))]
    cases bA
    all_goals
      go_enter Yba.func9, Yba.ntmps9
      go_wp2
      go_ret
      exact ⟨rfl, (Gr.refl _).alloc _⟩
  have t3' : (t == 1685382480) = false := by simpa using t3
  by_cases t4 : t = 1685382481
  · subst t4
    rw [if_pos (Or.inr (Or.inr rfl))]
    cases bA
    all_goals
      go_enter Yba.func9, Yba.ntmps9
      go_wp2
      go_ret
      exact ⟨rfl, (Gr.refl _).alloc _⟩
  have t4' : (t == 1685382481) = false := by simpa using t4
  rw [if_neg (by omega)]
  clear t2 t3 t4
  go_enter Yba.func9, Yba.ntmps9
  go_wp2
  go_ret
  exact ⟨rfl, (Gr.refl _).alloc _⟩

theorem takes_any (p : Seg) (k : Int) (w : World) : Calls Yba.prog 9 #[.agg p.arr, .int .u8 k] w fun e w' => e = .returned (.bool (takesB p.t k)) ∧ Gr w w' := takes_int _ _ _ _ _ _ _ _ _ _
end Go.Proofs.Ybulkdcs
