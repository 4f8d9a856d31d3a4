/-
  THE PLAIN LAW OF THE JOIN: what the digits of A ++ C come to, out of what A's and C's come to.
-/
import Derived.Test.Qxb6619345aHexLaw
namespace Go.Proofs.Qxb6619345a
open Go.RowKit

/-- 'r << uint(4*n)' on int32. -/
def shlR (r : Int) (n : Nat) : Int := wrap32 (r * 2 ^ min (4 * n) 32)

theorem shlR_run {P : Program} (r : Int) (n : Nat) (w : World) : (Op.shift .shl .i32 r .u64 (4 * (n : Int))).run P w = .ok (.int .i32 (shlR r n)) w := by
  rw [shift_shl_any _ _ _ _ (by omega), wrap_i32_eq]
  rw [show (4 * (n : Int)).toNat = 4 * n by omega]
  rfl

theorem wrap_mul (a p c : Int) : wrap32 (wrap32 a * p + c) = wrap32 (a * p + c) := by
  obtain ⟨t, ht⟩ : ∃ t, wrap32 a = a + 4294967296 * t := ⟨-((a + 2147483648) / 4294967296), by unfold wrap32; omega⟩
  rw [ht, Int.add_mul, Int.mul_assoc]
  generalize t * p = q
  generalize a * p = s
  unfold wrap32
  omega
theorem wrap_wrap (a : Int) : wrap32 (wrap32 a) = wrap32 a := by unfold wrap32; omega
theorem wrap_small (a : Int) (h0 : 0 ≤ a) (h1 : a < 2147483648) : wrap32 a = a := by unfold wrap32; omega

theorem or_zero (y : Int) : bits .or .i32 0 y = wrap32 y := by
  show IntKind.i32.wrap ((BitVec.ofInt 32 0 ||| BitVec.ofInt 32 y).toNat : Int) = _
  rw [BitVec.toNat_or, show (BitVec.ofInt 32 0).toNat = 0 by decide, Nat.zero_or, ofInt32_toNat, wrap_i32_eq]
  unfold wrap32
  omega

theorem all_iff (A : List Int) : A.all hxb = true ↔ hexN A = A.length := by
  constructor
  · intro h
    unfold hexN
    rw [run_all (List.all_eq_true.1 h)]
  · intro h
    rw [List.all_eq_true]
    have e := run_eq_take A
    rw [h, List.take_length] at e
    intro x hx
    exact run_hex A x (by rw [e]; exact hx)
theorem all_false (A : List Int) (h : A.all hxb = false) : hexN A < A.length := by
  have h1 := run_le A
  have h2 : hexN A ≠ A.length := fun e => by rw [(all_iff A).2 e] at h; cases h
  omega

theorem run_join_all (A C : List Int) (h : A.all hxb = true) : run (A ++ C) = A ++ run C := by
  rw [List.all_eq_true] at h
  unfold run
  induction A with
  | nil => rfl
  | cons x A ih =>
    rw [List.cons_append, List.takeWhile_cons, if_pos (h x (by simp)), ih (fun y hy => h y (by simp [hy]))]
    rfl
theorem run_join_not (A C : List Int) (h : A.all hxb = false) : run (A ++ C) = run A := by
  unfold run
  induction A with
  | nil => simp at h
  | cons x A ih =>
    rw [List.cons_append, List.takeWhile_cons, List.takeWhile_cons]
    cases hx : hxb x with
    | true =>
      rw [List.all_cons, hx, Bool.true_and] at h
      simp [ih h]
    | false => simp

theorem join_n (A C : List Int) (h : A.all hxb = true) : hexN (A ++ C) = A.length + hexN C := by
  unfold hexN
  rw [run_join_all A C h, List.length_append]
theorem join_n_not (A C : List Int) (h : A.all hxb = false) : hexN (A ++ C) = hexN A := by
  unfold hexN
  rw [run_join_not A C h]
theorem join_r_not (A C : List Int) (h : A.all hxb = false) : hexR (A ++ C) = hexR A := by
  unfold hexR
  rw [run_join_not A C h]

theorem pow_big (k : Nat) (h : 8 ≤ k) : ∃ t : Int, (16 : Int) ^ k = 4294967296 * t := by
  refine ⟨16 ^ (k - 8), ?_⟩
  rw [show k = 8 + (k - 8) by omega, Int.pow_add]
  rw [show 8 + (k - 8) - 8 = k - 8 by omega]
  rfl

theorem join_r (A C : List Int) (h : A.all hxb = true) : hexR (A ++ C) = bits .or .i32 (shlR (hexR A) (hexN C)) (hexR C) := by
  have hA : run A = A := run_all (List.all_eq_true.1 h)
  have e : hexR (A ++ C) = wrap32 (hexI A * 16 ^ hexN C + hexI (run C)) := by
    unfold hexR
    rw [run_join_all A C h, hexI_append]
    rfl
  have eA : hexR A = wrap32 (hexI A) := by unfold hexR; rw [hA]
  have eC : hexR C = wrap32 (hexI (run C)) := rfl
  have hb := hexI_bd (run C)
  rw [show (run C).length = hexN C from rfl] at hb
  rw [e, eA, eC]
  generalize hexN C = k at *
  generalize hexI A = a at *
  generalize hexI (run C) = c at *
  by_cases hk : 8 ≤ k
  · have es : shlR (wrap32 a) k = 0 := by
      unfold shlR
      rw [show min (4 * k) 32 = 32 by omega]
      rw [show (2 : Int) ^ 32 = 4294967296 by decide]
      unfold wrap32
      omega
    rw [es, or_zero, wrap_wrap]
    obtain ⟨t, ht⟩ := pow_big k hk
    rw [ht, ← Int.mul_assoc, Int.mul_comm a 4294967296, Int.mul_assoc]
    generalize a * t = q
    unfold wrap32
    omega
  · have hp := pow16_le k (by omega)
    have hs : wrap32 c = c := wrap_small c hb.1 (by omega)
    unfold shlR
    rw [show min (4 * k) 32 = 4 * k by omega, hs]
    rw [or_join (4 * k) (by omega) _ c (Int.mul_emod_left _ _) hb.1 (by rw [pow16]; exact hb.2), pow16, wrap_mul]

end Go.Proofs.Qxb6619345a
