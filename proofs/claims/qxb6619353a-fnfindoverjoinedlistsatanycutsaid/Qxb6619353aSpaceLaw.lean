/-
  THE PLAIN LAWS ON WHITE SPACE: where the run of white space that starts at a place ends. No Go in sight.
-/
namespace Go.Proofs.Qxb6619353a

/-- Is c one of the four bytes of white space? -/
def spB (c : Int) : Bool := decide (c = 32 ∨ c = 9 ∨ c = 10 ∨ c = 13)
theorem spB_yes {c : Int} (h : c = 32 ∨ c = 9 ∨ c = 10 ∨ c = 13) : spB c = true := by simp [spB, h]
theorem spB_no {c : Int} (h : ¬ (c = 32 ∨ c = 9 ∨ c = 10 ∨ c = 13)) : spB c = false := by simp only [spB]; exact decide_eq_false h

/-- Where the run that starts at p ends. -/
def stopAt (zs : List Int) (p : Nat) : Nat := p + ((zs.drop p).takeWhile spB).length

theorem stop_ge (zs : List Int) (p : Nat) : p ≤ stopAt zs p := by unfold stopAt; omega
theorem stop_le (zs : List Int) (p : Nat) (h : p ≤ zs.length) : stopAt zs p ≤ zs.length := by
  unfold stopAt
  have := (List.takeWhile_prefix (l := zs.drop p) spB).length_le
  rw [List.length_drop] at this
  omega
/-- A space at p: the run goes on. -/
theorem stop_go (zs : List Int) (p : Nat) (h : p < zs.length) (hs : spB (zs.getD p 0) = true) : stopAt zs p = stopAt zs (p + 1) := by
  unfold stopAt
  rw [List.drop_eq_getElem_cons h, List.takeWhile_cons]
  have e : zs[p] = zs.getD p 0 := by rw [List.getD_eq_getElem?_getD, List.getElem?_eq_getElem h]; rfl
  rw [e, hs]
  simp
  omega
theorem stop_here (zs : List Int) (p : Nat) (h : p < zs.length) (hs : spB (zs.getD p 0) = false) : stopAt zs p = p := by
  unfold stopAt
  rw [List.drop_eq_getElem_cons h, List.takeWhile_cons]
  have e : zs[p] = zs.getD p 0 := by rw [List.getD_eq_getElem?_getD, List.getElem?_eq_getElem h]; rfl
  rw [e, hs]
  simp
theorem stop_end (zs : List Int) (p : Nat) (h : zs.length ≤ p) : stopAt zs p = p := by
  unfold stopAt
  rw [List.drop_of_length_le h]
  simp

/-- By how far the run has to go: everything of it is white space, and it ends at a byte that is none or at the end. -/
theorem stop_spec (zs : List Int) : ∀ (d p : Nat), zs.length - p = d → p ≤ zs.length →
    (∀ i, p ≤ i → i < stopAt zs p → spB (zs.getD i 0) = true) ∧ (stopAt zs p < zs.length → spB (zs.getD (stopAt zs p) 0) = false) ∧ stopAt zs (stopAt zs p) = stopAt zs p := by
  intro d
  induction d with
  | zero =>
    intro p hd hp
    rw [stop_end zs p (by omega)]
    exact ⟨fun i h1 h2 => by omega, fun h => by omega, stop_end zs p (by omega)⟩
  | succ d ih =>
    intro p hd hp
    have hlt : p < zs.length := by omega
    cases hs : spB (zs.getD p 0) with
    | true =>
      obtain ⟨h1, h2, h3⟩ := ih (p + 1) (by omega) (by omega)
      rw [stop_go zs p hlt hs]
      refine ⟨fun i hi1 hi2 => ?_, h2, h3⟩
      by_cases e : i = p
      · subst e; exact hs
      · exact h1 i (by omega) hi2
    | false =>
      have e := stop_here zs p hlt hs
      rw [e]
      exact ⟨fun i h1 h2 => by omega, fun _ => hs, e⟩

theorem takeWhile_join (p : Int → Bool) (A B : List Int) : (A ++ B).takeWhile p = if A.all p = true then A ++ B.takeWhile p else A.takeWhile p := by
  induction A with
  | nil => simp
  | cons x A ih =>
    rw [List.cons_append, List.takeWhile_cons, List.takeWhile_cons, List.all_cons]
    cases hx : p x with
    | true =>
      simp only [if_true, Bool.true_and]
      rw [ih]
      split <;> simp
    | false => simp
theorem takeWhile_short (p : Int → Bool) (A : List Int) : (A.takeWhile p).length < A.length ↔ ¬ A.all p = true := by
  induction A with
  | nil => simp
  | cons x A ih =>
    rw [List.takeWhile_cons, List.all_cons]
    cases hx : p x with
    | true => simp only [if_true, Bool.true_and, List.length_cons]; rw [← ih]; omega
    | false => simp

/-- OVER A JOIN: the stop over A alone where that lies inside A; else A's length and the stop over B. -/
theorem stop_join_in (A B : List Int) (p : Nat) (hp : p ≤ A.length) (h : stopAt A p < A.length) : stopAt (A ++ B) p = stopAt A p := by
  unfold stopAt at *
  rw [List.drop_append_of_le_length hp, takeWhile_join, if_neg ?_]
  rw [← takeWhile_short, List.length_drop]
  omega
theorem stop_join_past (A B : List Int) (p : Nat) (hp : p ≤ A.length) (h : ¬ stopAt A p < A.length) : stopAt (A ++ B) p = A.length + stopAt B 0 := by
  unfold stopAt at *
  have ha : (A.drop p).all spB = true := by
    apply Classical.byContradiction
    intro hn
    have := (takeWhile_short spB (A.drop p)).2 hn
    rw [List.length_drop] at this
    omega
  rw [List.drop_append_of_le_length hp, takeWhile_join, if_pos ha, List.length_append, List.length_drop, List.drop_zero]
  omega

end Go.Proofs.Qxb6619353a
