/- PLAIN LISTS: what roomOf keeps, and that room.holds asks it rightly. No program in it. -/
namespace Go.Proofs.YbulkdbqDoor.Plain

/-- 't.atLeast(s)': t takes at least what s takes. -/
def geS (t s : Int × Int) : Bool := decide (s.1 ≤ t.1) && decide (s.2 ≤ t.2)

/-- One round of roomOf's loop. -/
def roomStep (r : List (Int × Int)) (s : Int × Int) : List (Int × Int) :=
  if r.isEmpty || decide ((r.getLast?.getD (0, 0)).2 < s.2) then r ++ [s] else r

def roomL (l : List (Int × Int)) : List (Int × Int) := l.foldl roomStep []

theorem roomL_snoc (l : List (Int × Int)) (s : Int × Int) : roomL (l ++ [s]) = roomStep (roomL l) s := by
  simp [roomL, List.foldl_append]

theorem roomStep_length (r : List (Int × Int)) (s : Int × Int) : (roomStep r s).length ≤ r.length + 1 := by
  unfold roomStep; split <;> simp

theorem roomL_length_aux (l r : List (Int × Int)) : (l.foldl roomStep r).length ≤ r.length + l.length := by
  induction l generalizing r with
  | nil => simp
  | cons a t ih => 
    have := ih (roomStep r a)
    have h2 := roomStep_length r a
    simp only [List.foldl_cons, List.length_cons]
    omega

theorem roomL_length (l : List (Int × Int)) : (roomL l).length ≤ l.length := by
  have := roomL_length_aux l []
  simpa [roomL] using this

structure Inv (r l : List (Int × Int)) : Prop where
  sub : ∀ y ∈ r, y ∈ l
  pw : r.Pairwise (fun a b => b.1 ≤ a.1 ∧ a.2 < b.2)
  cov : ∀ x ∈ l, ∃ y ∈ r, x.1 ≤ y.1 ∧ x.2 ≤ y.2

theorem Inv.step {r l : List (Int × Int)} {s : Int × Int} (h : Inv r l) (hs : ∀ x ∈ l, s.1 ≤ x.1) : Inv (roomStep r s) (l ++ [s]) := by
  rcases List.eq_nil_or_concat r with rfl | ⟨r', y, rfl⟩
  · have hl : l = [] := by
      cases l with
      | nil => rfl
      | cons a t => obtain ⟨y, hy, _⟩ := h.cov a (by simp); simp at hy
    subst hl
    refine ⟨by simp [roomStep], by simp [roomStep], ?_⟩
    intro x hx
    simp at hx
    exact ⟨s, by simp [roomStep], by rw [hx]; omega, by rw [hx]; omega⟩
  · have hpw := List.pairwise_append.1 (by simpa using h.pw : (r' ++ [y]).Pairwise _)
    have hyl : y ∈ l := h.sub y (by simp)
    by_cases hlt : y.2 < s.2
    · have e : roomStep (r' ++ [y]) s = r' ++ [y] ++ [s] := by simp [roomStep, hlt]
      have e' : roomStep (r'.concat y) s = r' ++ [y] ++ [s] := by rw [List.concat_eq_append]; exact e
      rw [e']
      refine ⟨?_, ?_, ?_⟩
      · intro z hz
        rcases List.mem_append.1 hz with hz | hz
        · exact List.mem_append.2 (Or.inl (h.sub z (by simpa using hz)))
        · exact List.mem_append.2 (Or.inr hz)
      · refine List.pairwise_append.2 ⟨by simpa using h.pw, by simp, ?_⟩
        intro a ha b hb
        simp at hb
        subst hb
        refine ⟨hs a (h.sub a (by simpa using ha)), ?_⟩
        rcases List.mem_append.1 ha with ha | ha
        · have := (hpw.2.2 a ha y (by simp)).2
          omega
        · simp at ha; rw [ha]; exact hlt
      · intro x hx
        rcases List.mem_append.1 hx with hx | hx
        · obtain ⟨z, hz, h1⟩ := h.cov x hx
          exact ⟨z, List.mem_append.2 (Or.inl (by simpa using hz)), h1⟩
        · simp at hx
          exact ⟨s, by simp, by rw [hx]; omega, by rw [hx]; omega⟩
    · have e' : roomStep (r'.concat y) s = r'.concat y := by simp [roomStep, hlt]
      rw [e']
      refine ⟨fun z hz => List.mem_append.2 (Or.inl (h.sub z hz)), h.pw, ?_⟩
      intro x hx
      rcases List.mem_append.1 hx with hx | hx
      · exact h.cov x hx
      · simp at hx
        exact ⟨y, by simp, by rw [hx]; exact hs y hyl, by rw [hx]; omega⟩

/-- Sorted as roomOf sorts: cores fall, and at equal cores memory falls. -/
theorem roomL_inv : ∀ (n : Nat) (l : List (Int × Int)), l.length = n → l.Pairwise (fun a b => b.1 ≤ a.1) → Inv (roomL l) l
  | 0, l, hl, _ => by
    obtain rfl := List.eq_nil_of_length_eq_zero hl
    exact ⟨by simp [roomL], by simp [roomL], by simp⟩
  | n + 1, l, hl, hp => by
    rcases List.eq_nil_or_concat l with rfl | ⟨l', s, rfl⟩
    · simp at hl
    · rw [List.concat_eq_append] at hl hp ⊢
      rw [roomL_snoc]
      have hp' := List.pairwise_append.1 hp
      exact (roomL_inv n l' (by simpa using hl) hp'.1).step (fun x hx => hp'.2.2 x hx s (by simp))

/-- How many places a rising test leaves false. -/
theorem count_rising (p : Nat → Bool) : ∀ n, (∀ a b, a ≤ b → b < n → p a = true → p b = true) →
    (List.range n).countP (fun i => !p i) ≤ n ∧ ∀ i, i < n → (p i = false ↔ i < (List.range n).countP (fun i => !p i))
  | 0, _ => ⟨by simp, by omega⟩
  | n + 1, h => by
    obtain ⟨ih0, ih⟩ := count_rising p n (fun a b hab hb => h a b hab (by omega))
    rw [List.range_succ, List.countP_append, List.countP_singleton]
    cases hp : p n with
    | true =>
      simp only [Bool.not_true, Bool.false_eq_true, if_false, Nat.add_zero]
      refine ⟨by omega, fun i hi => ?_⟩
      by_cases hin : i < n
      · exact ih i hin
      · obtain rfl : i = n := by omega
        simp [hp]; omega
    | false =>
      have hall : ∀ i, i < n → p i = false := by
        intro i hi
        cases hpi : p i with
        | false => rfl
        | true => have := h i n (by omega) (by omega) hpi; rw [hp] at this; cases this
      have hc : (List.range n).countP (fun i => !p i) = n := by
        have : (List.range n).countP (fun i => !p i) = (List.range n).length := by
          rw [List.countP_eq_length]
          intro a ha
          simp [hall a (by simpa using ha)]
        simpa using this
      rw [hc]
      simp only [Bool.not_false, if_true]
      refine ⟨by omega, fun i hi => ?_⟩
      by_cases hin : i < n
      · simp [hall i hin]; omega
      · obtain rfl : i = n := by omega
        simp [hp]

/-- What room.holds asks of r. -/
def nOf (r : List (Int × Int)) (s : Int × Int) : Nat := (List.range r.length).countP (fun i => !decide ((r.getD i (0, 0)).1 < s.1))
def holdsL (r : List (Int × Int)) (s : Int × Int) : Bool := decide (0 < nOf r s) && geS (r.getD (nOf r s - 1) (0, 0)) s

theorem rising {r : List (Int × Int)} (s : Int × Int) (hp : r.Pairwise (fun a b => b.1 ≤ a.1 ∧ a.2 < b.2)) (a b : Nat) (hab : a ≤ b) (hb : b < r.length) (h : decide ((r.getD a (0, 0)).1 < s.1) = true) : decide ((r.getD b (0, 0)).1 < s.1) = true := by
  by_cases e : a = b
  · subst e; exact h
  · have hlt : a < b := by omega
    have := (List.pairwise_iff_getElem.1 hp a b (by omega) hb hlt).1
    simp only [List.getD_eq_getElem?_getD, List.getElem?_eq_getElem hb, List.getElem?_eq_getElem (show a < r.length by omega), Option.getD_some, decide_eq_true_eq] at h ⊢
    omega

theorem nOf_le (r : List (Int × Int)) (s : Int × Int) (hp : r.Pairwise (fun a b => b.1 ≤ a.1 ∧ a.2 < b.2)) : nOf r s ≤ r.length :=
  (count_rising (fun i => decide ((r.getD i (0, 0)).1 < s.1)) r.length (rising s hp)).1

theorem holdsL_iff {r : List (Int × Int)} (s : Int × Int) (hp : r.Pairwise (fun a b => b.1 ≤ a.1 ∧ a.2 < b.2)) : holdsL r s = true ↔ ∃ y ∈ r, s.1 ≤ y.1 ∧ s.2 ≤ y.2 := by
  obtain ⟨hn, hc⟩ := count_rising (fun i => decide ((r.getD i (0, 0)).1 < s.1)) r.length (rising s hp)
  change nOf r s ≤ r.length at hn
  constructor
  · intro h
    simp only [holdsL, geS, Bool.and_eq_true, decide_eq_true_eq] at h
    obtain ⟨h0, h1, h2⟩ := h
    refine ⟨r[nOf r s - 1]'(by omega), List.getElem_mem _, ?_, ?_⟩
    · simpa [List.getElem?_eq_getElem (show nOf r s - 1 < r.length by omega)] using h1
    · simpa [List.getElem?_eq_getElem (show nOf r s - 1 < r.length by omega)] using h2
  · rintro ⟨y, hy, h1, h2⟩
    obtain ⟨i, hi, rfl⟩ := List.getElem_of_mem hy
    have hin : i < nOf r s := by
      refine (hc i hi).1 ?_
      simp [List.getElem?_eq_getElem hi]; omega
    have hm : nOf r s - 1 < r.length := by omega
    have hlast : (r[nOf r s - 1]'hm).1 < s.1 → False := by
      have := (hc (nOf r s - 1) hm).2 (by show nOf r s - 1 < nOf r s; omega)
      simp [List.getElem?_eq_getElem hm] at this
      omega
    have hmem : r[i].2 ≤ (r[nOf r s - 1]'hm).2 := by
      by_cases e : i = nOf r s - 1
      · subst e; omega
      · have := (List.pairwise_iff_getElem.1 hp i (nOf r s - 1) hi hm (by omega)).2
        omega
    simp only [holdsL, geS, Bool.and_eq_true, decide_eq_true_eq, List.getD_eq_getElem?_getD, List.getElem?_eq_getElem hm, Option.getD_some]
    exact ⟨by omega, Int.not_lt.1 hlast, by omega⟩

/-- THE PLAIN LAW: of a list sorted by falling cores, what roomOf keeps holds s just where one of the list's sizes does. -/
theorem room_law (l : List (Int × Int)) (hs : l.Pairwise (fun a b => b.1 ≤ a.1)) (s : Int × Int) :
    holdsL (roomL l) s = l.any (fun d => geS d s) := by
  have I := roomL_inv l.length l rfl hs
  rw [Bool.eq_iff_iff, holdsL_iff s I.pw, List.any_eq_true]
  constructor
  · rintro ⟨y, hy, h1, h2⟩
    exact ⟨y, I.sub y hy, by simp [geS, h1, h2]⟩
  · rintro ⟨x, hx, h⟩
    simp only [geS, Bool.and_eq_true, decide_eq_true_eq] at h
    obtain ⟨y, hy, h1, h2⟩ := I.cov x hx
    exact ⟨y, hy, by omega, by omega⟩

end Go.Proofs.YbulkdbqDoor.Plain
