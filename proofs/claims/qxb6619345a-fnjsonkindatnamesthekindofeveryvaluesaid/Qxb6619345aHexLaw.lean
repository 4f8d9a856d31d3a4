/-
  THE PLAIN LAWS ON HEX DIGITS: no Go in sight but the model's own words for '|' and for the wrap of int32.
-/
import Derived.WalkKit
namespace Go.Proofs.Qxb6619345a
open Go.RowKit

/-- Is c a hex digit? -/
def hxb (c : Int) : Bool := decide ((48 ≤ c ∧ c ≤ 57) ∨ (97 ≤ c ∧ c ≤ 102) ∨ (65 ≤ c ∧ c ≤ 70))
/-- Its value; 0 where it is none. -/
def hxv (c : Int) : Int := if 48 ≤ c ∧ c ≤ 57 then c - 48 else if 97 ≤ c ∧ c ≤ 102 then c - 87 else if 65 ≤ c ∧ c ≤ 70 then c - 55 else 0

theorem hxb_iff (c : Int) : hxb c = true ↔ ((48 ≤ c ∧ c ≤ 57) ∨ (97 ≤ c ∧ c ≤ 102) ∨ (65 ≤ c ∧ c ≤ 70)) := by simp [hxb]
theorem hxb_no (c : Int) : hxb c = false ↔ ¬ ((48 ≤ c ∧ c ≤ 57) ∨ (97 ≤ c ∧ c ≤ 102) ∨ (65 ≤ c ∧ c ≤ 70)) := by simp [hxb]
theorem hxv_dec {c : Int} (h : 48 ≤ c) (k : c ≤ 57) : hxv c = c - 48 := by unfold hxv; rw [if_pos ⟨h, k⟩]
theorem hxv_low {c : Int} (h : 97 ≤ c) (k : c ≤ 102) : hxv c = c - 87 := by unfold hxv; rw [if_neg (by omega), if_pos ⟨h, k⟩]
theorem hxv_up {c : Int} (h : 65 ≤ c) (k : c ≤ 70) : hxv c = c - 55 := by unfold hxv; rw [if_neg (by omega), if_neg (by omega), if_pos ⟨h, k⟩]
theorem hxv_none {c : Int} (h : hxb c = false) : hxv c = 0 := by
  rw [hxb_no] at h
  unfold hxv; rw [if_neg (by omega), if_neg (by omega), if_neg (by omega)]
theorem hxv_bd (c : Int) : 0 ≤ hxv c ∧ hxv c ≤ 15 := by
  unfold hxv
  split
  · omega
  · split
    · omega
    · split <;> omega

/-! ### The two rows of digits -/
def lowc (k : Nat) : Int := if k < 10 then 48 + k else 87 + k
def upc (k : Nat) : Int := if k < 10 then 48 + k else 55 + k

theorem low_hit {c : Int} {k : Nat} (hk : k < 16) (h : lowc k = c) : hxv c = k ∧ hxb c = true := by
  unfold lowc at h
  split at h
  · exact ⟨by rw [hxv_dec (by omega) (by omega)]; omega, by rw [hxb_iff]; omega⟩
  · exact ⟨by rw [hxv_low (by omega) (by omega)]; omega, by rw [hxb_iff]; omega⟩
theorem up_hit {c : Int} {k : Nat} (hk : k < 16) (h : upc k = c) : hxv c = k ∧ hxb c = true := by
  unfold upc at h
  split at h
  · exact ⟨by rw [hxv_dec (by omega) (by omega)]; omega, by rw [hxb_iff]; omega⟩
  · exact ⟨by rw [hxv_up (by omega) (by omega)]; omega, by rw [hxb_iff]; omega⟩
theorem hx_miss {c : Int} (h : ∀ j, j < 16 → lowc j ≠ c ∧ upc j ≠ c) : hxv c = 0 ∧ hxb c = false := by
  have hb : hxb c = false := by
    rw [hxb_no]
    rintro (⟨h1, h2⟩ | ⟨h1, h2⟩ | ⟨h1, h2⟩)
    · have := (h (c - 48).toNat (by omega)).1
      unfold lowc at this
      split at this <;> omega
    · have := (h (c - 87).toNat (by omega)).1
      unfold lowc at this
      split at this <;> omega
    · have := (h (c - 55).toNat (by omega)).2
      unfold upc at this
      split at this <;> omega
  exact ⟨hxv_none hb, hb⟩

theorem low_row (k : Nat) (h : k < 16) : ((({ data := #[48, 49, 50, 51, 52, 53, 54, 55, 56, 57, 97, 98, 99, 100, 101, 102] } : ByteArray)[k]'h).toNat : Int) = lowc k := by
  revert k; decide
theorem up_row (k : Nat) (h : k < 16) : ((({ data := #[48, 49, 50, 51, 52, 53, 54, 55, 56, 57, 65, 66, 67, 68, 69, 70] } : ByteArray)[k]'h).toNat : Int) = upc k := by
  revert k; decide

theorem way_low {c : Int} {k : Nat} (hk : k < 16) (h : ((({ data := #[48, 49, 50, 51, 52, 53, 54, 55, 56, 57, 97, 98, 99, 100, 101, 102] } : ByteArray)[k]'hk).toNat : Int) = c) : hxv c = k ∧ hxb c = true := by
  rw [low_row k hk] at h
  exact low_hit hk h
theorem way_either {c : Int} {k : Nat} (hk : k < 16) (h : (((({ data := #[48, 49, 50, 51, 52, 53, 54, 55, 56, 57, 97, 98, 99, 100, 101, 102] } : ByteArray)[k]'hk).toNat : Int) == c) = true ∨
    (((({ data := #[48, 49, 50, 51, 52, 53, 54, 55, 56, 57, 65, 66, 67, 68, 69, 70] } : ByteArray)[k]'hk).toNat : Int) == c) = true) : hxv c = k ∧ hxb c = true := by
  rw [low_row k hk, up_row k hk, beq_iff_eq, beq_iff_eq] at h
  rcases h with h | h
  · exact low_hit hk h
  · exact up_hit hk h
theorem way_neither {c : Int} {k : Nat} (hk : k < 16) (h : (((({ data := #[48, 49, 50, 51, 52, 53, 54, 55, 56, 57, 97, 98, 99, 100, 101, 102] } : ByteArray)[k]'hk).toNat : Int) == c) = false ∧
    (((({ data := #[48, 49, 50, 51, 52, 53, 54, 55, 56, 57, 65, 66, 67, 68, 69, 70] } : ByteArray)[k]'hk).toNat : Int) == c) = false) (H : ∀ j, j < k → lowc j ≠ c ∧ upc j ≠ c) : ∀ j, j < k + 1 → lowc j ≠ c ∧ upc j ≠ c := by
  rw [low_row k hk, up_row k hk, beq_eq_false_iff_ne, beq_eq_false_iff_ne] at h
  intro j hj
  by_cases e : j = k
  · subst e; exact h
  · exact H j (by omega)

/-! ### One more digit: 'r << 4 | d' on int32 -/
theorem wrap_i32_eq (n : Int) : IntKind.i32.wrap n = wrap32 n := by
  simp [IntKind.wrap, IntKind.bits, IntKind.signed, wrap32]
  split <;> omega

theorem ofInt32_toNat (x : Int) : ((BitVec.ofInt 32 x).toNat : Int) = x % 4294967296 := by
  rw [BitVec.toNat_ofInt]
  have : (0 : Int) ≤ x % 4294967296 := Int.emod_nonneg _ (by decide)
  simp
  omega

theorem ofInt32_wrap (x : Int) : BitVec.ofInt 32 (wrap32 x) = BitVec.ofInt 32 x := by
  apply BitVec.eq_of_toNat_eq
  have h1 := ofInt32_toNat (wrap32 x)
  have h2 := ofInt32_toNat x
  unfold wrap32 at h1 ⊢
  omega

/-- A number whose low e bits are nought, joined with one below 2^e, is their sum. -/
theorem or_join (e : Nat) (he : e ≤ 32) (x y : Int) (hx : x % 2 ^ e = 0) (hy0 : 0 ≤ y) (hy1 : y < 2 ^ e) :
    bits .or .i32 (wrap32 x) y = wrap32 (x + y) := by
  show IntKind.i32.wrap ((BitVec.ofInt 32 (wrap32 x) ||| BitVec.ofInt 32 y).toNat : Int) = _
  rw [ofInt32_wrap, BitVec.toNat_or]
  obtain ⟨Y, rfl⟩ := Int.eq_ofNat_of_zero_le hy0
  have hp : (2 : Int) ^ e ≤ 4294967296 := by
    have : (2 : Nat) ^ e ≤ 2 ^ 32 := Nat.pow_le_pow_right (by omega) he
    have h2 : ((2 ^ e : Nat) : Int) ≤ ((2 ^ 32 : Nat) : Int) := by exact_mod_cast this
    simpa using h2
  have hYn : Y < 2 ^ e := by
    have : (Y : Int) < ((2 ^ e : Nat) : Int) := by simpa using hy1
    exact_mod_cast this
  have hY32 : Y < 4294967296 := by
    have : (2 : Nat) ^ e ≤ 2 ^ 32 := Nat.pow_le_pow_right (by omega) he
    omega
  rw [ofInt_u32 Y hY32]
  have hX := ofInt32_toNat x
  have hlt : (BitVec.ofInt 32 x).toNat < 4294967296 := (BitVec.ofInt 32 x).isLt
  generalize (BitVec.ofInt 32 x).toNat = X at hX hlt ⊢
  have hdvd : ((2 : Int) ^ e) ∣ 4294967296 := by
    have : (2 : Nat) ^ e ∣ 2 ^ 32 := Nat.pow_dvd_pow 2 he
    have h2 : ((2 ^ e : Nat) : Int) ∣ ((2 ^ 32 : Nat) : Int) := by exact_mod_cast this
    simpa using h2
  have hXe : X % 2 ^ e = 0 := by
    have h1 : (X : Int) % 2 ^ e = 0 := by rw [hX, Int.emod_emod_of_dvd _ hdvd]; exact hx
    have h2 : ((X % 2 ^ e : Nat) : Int) = 0 := by simpa using h1
    exact_mod_cast h2
  rw [nat_join e X Y hXe hYn, wrap_i32_eq]
  have : ((X + Y : Nat) : Int) = x % 4294967296 + Y := by omega
  rw [this]
  unfold wrap32
  omega

theorem or_digit (r d : Int) (h0 : 0 ≤ d) (h1 : d ≤ 15) : bits .or .i32 (wrap32 (r * 16)) d = wrap32 (r * 16 + d) :=
  or_join 4 (by decide) (r * 16) d (by omega) h0 (by omega)

/-! ### A run of digits read as a number -/
/-- The number, whole. -/
def hexI (l : List Int) : Int := l.foldl (fun r c => r * 16 + hxv c) 0
/-- The digits that l opens with. -/
def run (l : List Int) : List Int := l.takeWhile hxb
/-- How many there are; the number's low 32 bits, as a rune. -/
def hexN (l : List Int) : Nat := (run l).length
def hexR (l : List Int) : Int := wrap32 (hexI (run l))

theorem hexI_nil : hexI [] = 0 := rfl
theorem hexI_snoc (l : List Int) (c : Int) : hexI (l ++ [c]) = hexI l * 16 + hxv c := by simp [hexI, List.foldl_append]
theorem wrap_step (r d : Int) : wrap32 (wrap32 r * 16 + d) = wrap32 (r * 16 + d) := by unfold wrap32; omega

theorem foldl_from (l : List Int) (r : Int) : l.foldl (fun r c => r * 16 + hxv c) r = r * 16 ^ l.length + hexI l := by
  induction l generalizing r with
  | nil => simp [hexI]
  | cons c l ih =>
    simp only [List.foldl_cons, List.length_cons]
    rw [ih, show hexI (c :: l) = l.foldl (fun r c => r * 16 + hxv c) (0 * 16 + hxv c) from rfl, ih]
    rw [Int.pow_succ, Int.add_mul]
    simp only [Int.zero_mul, Int.zero_add]
    rw [show r * 16 * 16 ^ l.length = r * (16 ^ l.length * 16) by rw [Int.mul_assoc, Int.mul_comm 16]]
    omega

theorem hexI_append (a c : List Int) : hexI (a ++ c) = hexI a * 16 ^ c.length + hexI c := by
  show (a ++ c).foldl _ _ = _
  rw [List.foldl_append]
  exact foldl_from c _

theorem hexI_bd (l : List Int) : 0 ≤ hexI l ∧ hexI l < 16 ^ l.length := by
  induction l with
  | nil => simp [hexI]
  | cons c l ih =>
    rw [show c :: l = [c] ++ l from rfl, hexI_append]
    have hd := hxv_bd c
    have e : hexI [c] = hxv c := by simp [hexI]
    rw [e]
    have hp : (0 : Int) < 16 ^ l.length := Int.pow_pos (by decide)
    rw [List.length_append, Nat.add_comm, Int.pow_add]
    simp only [List.length_cons, List.length_nil]
    generalize (16 : Int) ^ l.length = p at *
    have h15 : hxv c * p ≤ 15 * p := Int.mul_le_mul_of_nonneg_right hd.2 (by omega)
    have h0 : 0 ≤ hxv c * p := Int.mul_nonneg hd.1 (by omega)
    omega

/-! ### How the run grows, and where it ends -/
theorem run_all {l : List Int} (h : ∀ c ∈ l, hxb c = true) : run l = l := by
  unfold run
  induction l with
  | nil => rfl
  | cons c l ih =>
    rw [List.takeWhile_cons, if_pos (h c (by simp)), ih (fun x hx => h x (by simp [hx]))]

theorem run_stop {l : List Int} {k : Nat} (hk : k < l.length) (h : ∀ c ∈ l.take k, hxb c = true) (hs : hxb l[k] = false) : run l = l.take k := by
  unfold run
  induction l generalizing k with
  | nil => simp at hk
  | cons c l ih =>
    cases k with
    | zero =>
      simp only [List.getElem_cons_zero] at hs
      simp [hs]
    | succ k =>
      simp only [List.getElem_cons_succ] at hs
      have hc : hxb c = true := h c (by simp)
      rw [List.takeWhile_cons, if_pos hc, List.take_succ_cons]
      rw [ih (by simpa using hk) (fun x hx => h x (by simp [List.take_succ_cons, hx])) hs]

theorem run_le (l : List Int) : hexN l ≤ l.length := by
  unfold hexN run
  exact (List.takeWhile_prefix hxb).length_le
theorem run_eq_take (l : List Int) : run l = l.take (hexN l) := by
  unfold hexN
  exact (List.prefix_iff_eq_take.1 (List.takeWhile_prefix hxb))
theorem run_hex (l : List Int) : ∀ c ∈ run l, hxb c = true := by
  unfold run
  intro c hc
  induction l with
  | nil => simp at hc
  | cons x l ih =>
    rw [List.takeWhile_cons] at hc
    split at hc
    · rename_i hx
      rcases List.mem_cons.1 hc with rfl | hc
      · exact hx
      · exact ih hc
    · simp at hc
theorem run_digit (l : List Int) (i : Nat) (hi : i < hexN l) : hxb (l.getD i 0) = true := by
  have hl := run_le l
  apply run_hex l
  rw [run_eq_take]
  have : l.getD i 0 = (l.take (hexN l))[i]'(by simp; omega) := by
    rw [List.getElem_take, List.getD_eq_getElem?_getD, List.getElem?_eq_getElem (by omega)]; rfl
  rw [this]
  exact List.getElem_mem _
theorem takeWhile_next (m : List Int) (h : (m.takeWhile hxb).length < m.length) : hxb m[(m.takeWhile hxb).length] = false := by
  induction m with
  | nil => simp at h
  | cons x m ih =>
    by_cases hx : hxb x = true
    · simp only [List.takeWhile_cons, hx, if_true, List.length_cons, List.getElem_cons_succ] at h ⊢
      exact ih (by omega)
    · simp only [List.takeWhile_cons, hx]
      simpa using hx
theorem run_next (l : List Int) (h : hexN l < l.length) : hxb (l.getD (hexN l) 0) = false := by
  have e : l.getD (hexN l) 0 = l[hexN l] := by
    rw [List.getD_eq_getElem?_getD, List.getElem?_eq_getElem h]; rfl
  rw [e]
  exact takeWhile_next l h

/-! ### The low eight digits, laid together from the last one on -/
/-- The last m of the first k digits, as a number. -/
def lastV (ys : List Int) (k m : Nat) : Int := hexI ((ys.take k).drop (k - m))

theorem lastV_zero (ys : List Int) (k : Nat) : lastV ys k 0 = 0 := by
  unfold lastV
  rw [List.drop_of_length_le (by simp; omega)]
  rfl
theorem lastV_len (ys : List Int) (k m : Nat) (hk : k ≤ ys.length) (hm : m ≤ k) : ((ys.take k).drop (k - m)).length = m := by simp; omega
theorem lastV_succ (ys : List Int) (k m : Nat) (hk : k ≤ ys.length) (hm : m < k) : lastV ys k (m + 1) = hxv (ys.getD (k - 1 - m) 0) * 16 ^ m + lastV ys k m := by
  unfold lastV
  have e : (ys.take k).drop (k - (m + 1)) = [ys.getD (k - 1 - m) 0] ++ (ys.take k).drop (k - m) := by
    rw [List.drop_eq_getElem_cons (show k - (m + 1) < (ys.take k).length by simp; omega)]
    rw [List.getElem_take, List.getD_eq_getElem?_getD, List.getElem?_eq_getElem (show k - 1 - m < ys.length by omega)]
    rw [show k - (m + 1) + 1 = k - m by omega]
    simp only [Option.getD_some, List.cons_append, List.nil_append]
    congr 2
    omega
  rw [e, hexI_append, lastV_len ys k m hk (by omega)]
  simp [hexI]
theorem lastV_bd (ys : List Int) (k m : Nat) (hk : k ≤ ys.length) (hm : m ≤ k) : 0 ≤ lastV ys k m ∧ lastV ys k m < 16 ^ m := by
  have h := hexI_bd ((ys.take k).drop (k - m))
  rw [lastV_len ys k m hk hm] at h
  exact h

theorem pow16 (m : Nat) : (2 : Int) ^ (4 * m) = 16 ^ m := by rw [Int.pow_mul]; rfl
theorem pow16_le (m : Nat) (h : m ≤ 7) : (16 : Int) ^ m ≤ 268435456 := by
  have : (16 : Nat) ^ m ≤ 16 ^ 7 := Nat.pow_le_pow_right (by omega) h
  have h2 : ((16 ^ m : Nat) : Int) ≤ ((16 ^ 7 : Nat) : Int) := by exact_mod_cast this
  simpa using h2

/-- 'v |= d << uint(4*m)' lays the next digit ahead. -/
theorem lastV_or (ys : List Int) (k m : Nat) (hk : k ≤ ys.length) (hm : m < k) (h8 : m < 8) (c : Int) (hc : ys.getD (k - 1 - m) 0 = c) :
    bits .or .u32 (lastV ys k m) (hxv c * 2 ^ (4 * m) % 4294967296) = lastV ys k (m + 1) := by
  rw [lastV_succ ys k m hk hm, hc, pow16]
  obtain ⟨h0, h1⟩ := lastV_bd ys k m hk (by omega)
  have hp := pow16_le m (by omega)
  have hp0 : (0 : Int) < 16 ^ m := Int.pow_pos (by decide)
  obtain ⟨d0, d1⟩ := hxv_bd c
  have q1 : hxv c * 16 ^ m ≤ 15 * 16 ^ m := Int.mul_le_mul_of_nonneg_right d1 (by omega)
  have q0 : 0 ≤ hxv c * 16 ^ m := Int.mul_nonneg d0 (by omega)
  have hmod : (hxv c * 16 ^ m) % 16 ^ m = 0 := Int.mul_emod_left _ _
  rw [Int.emod_eq_of_lt q0 (by omega)]
  rw [u32_or _ _ h0 (by omega) q0 (by omega)]
  obtain ⟨V, hV⟩ := Int.eq_ofNat_of_zero_le h0
  obtain ⟨X, hX⟩ := Int.eq_ofNat_of_zero_le q0
  rw [hV] at h1 ⊢
  rw [hX] at hmod ⊢
  rw [Int.toNat_natCast, Int.toNat_natCast]
  have e16 : (16 : Nat) ^ m = 2 ^ (4 * m) := by rw [Nat.pow_mul]
  have j := nat_join (4 * m) X V (by
    rw [← e16]
    have : ((X % 16 ^ m : Nat) : Int) = 0 := by simpa using hmod
    exact_mod_cast this) (by
    rw [← e16]
    have : ((V : Nat) : Int) < ((16 ^ m : Nat) : Int) := by simpa using h1
    exact_mod_cast this)
  rw [Nat.or_comm, j]
  omega

/-- .. and eight digits, or all, say what the whole says of 32 bits. -/
theorem lastV_all (ys : List Int) (k m : Nat) (hk : k ≤ ys.length) (hm : m ≤ k) (h : m = 8 ∨ m = k) : wrap32 (hexI (ys.take k)) = wrap32 (lastV ys k m) := by
  have e : hexI (ys.take k) = hexI ((ys.take k).take (k - m)) * 16 ^ m + lastV ys k m := by
    have := hexI_append ((ys.take k).take (k - m)) ((ys.take k).drop (k - m))
    rw [List.take_append_drop, lastV_len ys k m hk hm] at this
    exact this
  rcases h with rfl | rfl
  · rw [e]
    generalize hexI ((ys.take k).take (k - 8)) = A
    generalize lastV ys k 8 = B
    have : (16 : Int) ^ 8 = 4294967296 := by decide
    rw [this]
    unfold wrap32
    omega
  · rw [e]
    simp [hexI_nil]

theorem hexR_eq (ys : List Int) (k m : Nat) (hk : hexN ys = k) (hm : m ≤ k) (h : m = 8 ∨ m = k) : hexR ys = wrap32 (lastV ys k m) := by
  have hl := run_le ys
  unfold hexR
  rw [run_eq_take, hk]
  exact lastV_all ys k m (by omega) hm h

end Go.Proofs.Qxb6619345a
