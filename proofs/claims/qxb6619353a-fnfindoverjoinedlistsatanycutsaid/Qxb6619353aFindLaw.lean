/-
  THE PLAIN LAWS ON THE FIRST KEY THAT MATCHES. No Go in sight.
-/
namespace Go.Proofs.Qxb6619353a

/-- r is the first place below n at which p holds, or -1 where there is none. -/
def First (p : Nat → Bool) (n : Nat) (r : Int) : Prop :=
  (r = -1 ∧ ∀ i, i < n → p i = false) ∨ ∃ m : Nat, m < n ∧ r = m ∧ p m = true ∧ ∀ i, i < m → p i = false

theorem First.bd {p : Nat → Bool} {n : Nat} {r : Int} (h : First p n r) : -1 ≤ r ∧ r < n := by
  rcases h with ⟨rfl, _⟩ | ⟨m, hm, rfl, _⟩ <;> omega
theorem First.uniq {p : Nat → Bool} {n : Nat} {r r' : Int} (h : First p n r) (h' : First p n r') : r = r' := by
  rcases h with ⟨rfl, h1⟩ | ⟨m, hm, rfl, h1, h2⟩
  · rcases h' with ⟨rfl, _⟩ | ⟨m', hm', rfl, k1, _⟩
    · rfl
    · rw [h1 m' hm'] at k1; cases k1
  · rcases h' with ⟨rfl, k1⟩ | ⟨m', hm', rfl, k1, k2⟩
    · rw [k1 m hm] at h1; cases h1
    · by_cases e : m = m'
      · rw [e]
      · exfalso
        rcases (show m < m' ∨ m' < m from by omega) with hlt | hlt
        · rw [k2 m hlt] at h1; cases h1
        · rw [h2 m' hlt] at k1; cases k1
theorem First.congr {p q : Nat → Bool} {n : Nat} {r : Int} (h : First p n r) (e : ∀ i, i < n → p i = q i) : First q n r := by
  rcases h with ⟨rfl, h1⟩ | ⟨m, hm, rfl, h1, h2⟩
  · exact .inl ⟨rfl, fun i hi => by rw [← e i hi]; exact h1 i hi⟩
  · exact .inr ⟨m, hm, rfl, by rw [← e m hm]; exact h1, fun i hi => by rw [← e i (by omega)]; exact h2 i hi⟩

/-- ONE KEY PUT IN AT PLACE j: the old place where that lies before j, else j. -/
theorem first_put {p q : Nat → Bool} {n j : Nat} {r : Int} (h : First p n r) (hj : j ≤ n) (h1 : ∀ i, i < j → q i = p i) (h2 : q j = true) :
    First q (n + 1) (if 0 ≤ r ∧ r < j then r else j) := by
  rcases h with ⟨rfl, hn⟩ | ⟨m, hm, rfl, hp, hb⟩
  · rw [if_neg (by omega)]
    exact .inr ⟨j, by omega, rfl, h2, fun i hi => by rw [h1 i hi]; exact hn i (by omega)⟩
  · by_cases hmj : m < j
    · rw [if_pos (by omega)]
      exact .inr ⟨m, by omega, rfl, by rw [h1 m hmj]; exact hp, fun i hi => by rw [h1 i (by omega)]; exact hb i hi⟩
    · rw [if_neg (by omega)]
      exact .inr ⟨j, by omega, rfl, h2, fun i hi => by rw [h1 i hi]; exact hb i (by omega)⟩

/-- TWO LISTS JOINED: the place in the first where it holds one, else the first's length and the place in the second, else none. -/
theorem first_join {p q s : Nat → Bool} {n m : Nat} {ra rb : Int} (ha : First p n ra) (hb : First q m rb) (h1 : ∀ i, i < n → s i = p i) (h2 : ∀ i, i < m → s (n + i) = q i) :
    First s (n + m) (if ra ≠ -1 then ra else if rb ≠ -1 then n + rb else -1) := by
  rcases ha with ⟨rfl, hn⟩ | ⟨k, hk, rfl, hp, hbf⟩
  · rw [if_neg (by omega)]
    rcases hb with ⟨rfl, hm⟩ | ⟨k, hk, rfl, hp, hbf⟩
    · rw [if_neg (by omega)]
      refine .inl ⟨rfl, fun i hi => ?_⟩
      by_cases hin : i < n
      · rw [h1 i hin]; exact hn i hin
      · have := h2 (i - n) (by omega)
        rw [show n + (i - n) = i by omega] at this
        rw [this]; exact hm (i - n) (by omega)
    · rw [if_pos (by omega)]
      refine .inr ⟨n + k, by omega, by omega, by rw [h2 k hk]; exact hp, fun i hi => ?_⟩
      by_cases hin : i < n
      · rw [h1 i hin]; exact hn i hin
      · have := h2 (i - n) (by omega)
        rw [show n + (i - n) = i by omega] at this
        rw [this]; exact hbf (i - n) (by omega)
  · rw [if_pos (by omega)]
    exact .inr ⟨k, by omega, rfl, by rw [h1 k hk]; exact hp, fun i hi => by rw [h1 i (by omega)]; exact hbf i hi⟩

/-- Is there one at all? -/
def anyB (p : Nat → Bool) : Nat → Bool
  | 0 => false
  | n + 1 => anyB p n || p n
theorem anyB_false {p : Nat → Bool} : ∀ {n : Nat}, (∀ i, i < n → p i = false) → anyB p n = false
  | 0, _ => rfl
  | n + 1, h => by rw [anyB, anyB_false (fun i hi => h i (by omega)), h n (by omega)]; rfl
theorem anyB_true {p : Nat → Bool} : ∀ {n m : Nat}, m < n → p m = true → anyB p n = true
  | 0, _, h, _ => absurd h (by omega)
  | n + 1, m, h, hp => by
    rw [anyB]
    by_cases e : m = n
    · subst e; rw [hp]; simp
    · rw [anyB_true (show m < n by omega) hp]; rfl
theorem First.any {p : Nat → Bool} {n : Nat} {r : Int} (h : First p n r) : anyB p n = (r != -1) := by
  rcases h with ⟨rfl, hn⟩ | ⟨m, hm, rfl, hp, _⟩
  · rw [anyB_false hn]; rfl
  · rw [anyB_true hm hp]
    have : (m : Int) ≠ -1 := by omega
    simp [this]

end Go.Proofs.Qxb6619353a
