/-
  zzIsString (21), zzIsEmpty (22): each answers some bool, turns nothing, and says yes only of a string whose first byte is the one asked for; and what they say of two quotes, of the empty array and the empty object; zzIsNumber (17) at its short witnesses.
-/
import Derived.Test.Qxb6619345aNumWalks
namespace Go.Proofs.Qxb6619345a
open Go.RowKit

/-- The string opens with the byte c. -/
def headIs (s : ByteArray) (c : Int) : Prop := ∃ hp : 0 < s.size, ((s[0]'hp).toNat : Int) = c

theorem escape_cases (e : Int) : e = 34 ∨ e = 92 ∨ e = 47 ∨ e = 98 ∨ e = 102 ∨ e = 110 ∨ e = 114 ∨ e = 116 ∨
    ((e == 34) = false ∧ (e == 92) = false ∧ (e == 47) = false ∧ (e == 98) = false ∧ (e == 102) = false ∧ (e == 110) = false ∧ (e == 114) = false ∧ (e == 116) = false) := by
  simp only [beq_eq_false_iff_ne]
  omega

set_option maxRecDepth 100000 in
set_option maxHeartbeats 4000000 in
theorem isString_weak (s : ByteArray) (hs : s.size ≤ 1048576) (hp : 0 < s.size) (w : World) :
    Calls Try.prog 21 #[.string s] w (Weak w (headIs s 34)) := by
  by_cases h2 : s.size < 2
  · have d1 : decide ((s.size : Int) < 2) = true := decide_eq_true (by omega)
    go_enter Try.func21, Try.ntmps21
    go_wp2
    go_ret
    exact Weak.no
  · have d1 : decide ((s.size : Int) < 2) = false := decide_eq_false (by omega)
    cases h0 : (((s[0]'hp).toNat : Int) != 34) with
    | true =>
      go_enter Try.func21, Try.ntmps21
      go_wp2
      go_ret
      exact Weak.no
    | false =>
      have HH : Hid (headIs s 34) := ⟨hp, by simpa using h0⟩
      cases h1 : (((s[s.size - 1]'(by omega)).toNat : Int) != 34) with
      | true =>
        go_enter Try.func21, Try.ntmps21
        go_wp2
        go_ret
        exact Weak.no
      | false =>
        go_enter Try.func21, Try.ntmps21
        go_wp2
        go_loop [4] (fun i => ∃ k : Nat, 1 ≤ k ∧ k ≤ s.size - 1 ∧ i = .int .i64 k) (fun i => s.size - (intOf i).toNat)
        case atStart => exact ⟨1, by omega, by omega, rfl⟩
        case round =>
          obtain ⟨k, hk1, hk2, rfl⟩ := hrel
          clear h0 h1
          by_cases hlt : k < s.size - 1
          · have hks : k < s.size := by omega
            cases hb : (((s[k]'hks).toNat : Int) == 92) with
            | true =>
              by_cases hn1 : k + 1 < s.size - 1
              · have hks1 : k + 1 < s.size := by omega
                cases hu : (((s[k + 1]'hks1).toNat : Int) == 117) with
                | true =>
                  by_cases hn5 : k + 5 < s.size - 1
                  · have d2 : decide ((s.size : Int) - 1 ≤ (k : Int) + 1) = false := decide_eq_false (by omega)
                    have d3 : decide ((s.size : Int) - 1 ≤ (k : Int) + 5) = false := decide_eq_false (by omega)
                    go_wp2
                    go_loop [7] (fun j => ∃ m : Nat, k + 2 ≤ m ∧ m ≤ k + 6 ∧ j = .int .i64 m) (fun j => k + 6 - (intOf j).toNat)
                    case atStart => exact ⟨k + 2, by omega, by omega, by go_num⟩
                    case round =>
                      obtain ⟨m, hm1, hm2, rfl⟩ := hrel
                      by_cases hm : m ≤ k + 5
                      · have hms : m < s.size := by omega
                        cases hx : hxb ((s[m]'hms).toNat : Int) with
                        | true =>
                          go_wp2_with (go_at_call 9; refine (hexDigit_any _ _).mono ?_; rintro e w' ⟨rfl, rfl⟩)
                          go_round
                          case rel => exact ⟨m + 1, by omega, by omega, by go_num⟩
                          case measure => simp [intOf]; omega
                        | false =>
                          go_wp2_with (go_at_call 9; refine (hexDigit_any _ _).mono ?_; rintro e w' ⟨rfl, rfl⟩)
                          go_ret
                          exact Weak.no
                      · go_wp2
                        go_round
                        case rel => exact ⟨k + 6, by omega, by omega, by go_num⟩
                        case measure => simp [intOf]; omega
                  · go_wp2
                    go_ret
                    exact Weak.no
                | false =>
                  have d2 : decide ((s.size : Int) - 1 ≤ (k : Int) + 1) = false := decide_eq_false (by omega)
                  rcases escape_cases ((s[k + 1]'hks1).toNat : Int) with h | h | h | h | h | h | h | h | ⟨g1, g2, g3, g4, g5, g6, g7, g8⟩
                  case inr.inr.inr.inr.inr.inr.inr.inr =>
                    go_wp2
                    go_ret
                    exact Weak.no
                  all_goals
                    clear hu
                    go_wp2
                    go_round
                    case rel => exact ⟨k + 2, by omega, by omega, by go_num⟩
                    case measure => simp [intOf]; omega
              · go_wp2
                go_ret
                exact Weak.no
            | false =>
              by_cases hok : ((s[k]'hks).toNat : Int) ≠ 34 ∧ 32 ≤ ((s[k]'hks).toNat : Int) ∧ ((s[k]'hks).toNat : Int) < 128
              · obtain ⟨q1, q2, q3⟩ := hok
                have q4 : (((s[k]'hks).toNat : Int) == 34) = false := beq_eq_false_iff_ne.2 q1
                clear q1
                go_wp2
                go_round
                case rel => exact ⟨k + 1, by omega, by omega, by go_num⟩
                case measure => simp [intOf]; omega
              · go_wp2
                all_goals
                  go_ret
                  exact Weak.no
          · go_wp2
            go_ret
            exact Weak.some _ HH.out

/-- Of two quotes it says yes. -/
theorem isString_two (s : ByteArray) (hs : s.size = 2) (h0 : ((s[0]'(by omega)).toNat : Int) = 34) (h1 : ((s[1]'(by omega)).toNat : Int) = 34) (w : World) :
    Calls Try.prog 21 #[.string s] w fun e w' => e = .returned (.bool true) ∧ w = w' := by
  go_enter Try.func21, Try.ntmps21
  go_wp2
  refine wp_loop_rounds 1 ?_
  rw [rounds_succ]
  go_wp2
  go_ret
  exact ⟨rfl, rfl⟩

theorem blank_cases (e : Int) : e = 32 ∨ e = 9 ∨ e = 10 ∨ e = 13 ∨ ((e == 32) = false ∧ (e == 9) = false ∧ (e == 10) = false ∧ (e == 13) = false) := by
  simp only [beq_eq_false_iff_ne]
  omega

set_option maxRecDepth 100000 in
set_option maxHeartbeats 4000000 in
theorem isEmpty_weak (s : ByteArray) (o c : Int) (hs : s.size ≤ 1048576) (hp : 0 < s.size) (w : World) :
    Calls Try.prog 22 #[.string s, .int .u8 o, .int .u8 c] w (Weak w (headIs s o)) := by
  by_cases h2 : s.size < 2
  · have d1 : decide ((s.size : Int) < 2) = true := decide_eq_true (by omega)
    go_enter Try.func22, Try.ntmps22
    go_wp2
    go_ret
    exact Weak.no
  · have d1 : decide ((s.size : Int) < 2) = false := decide_eq_false (by omega)
    cases h0 : (((s[0]'hp).toNat : Int) != o) with
    | true =>
      go_enter Try.func22, Try.ntmps22
      go_wp2
      go_ret
      exact Weak.no
    | false =>
      have HH : Hid (headIs s o) := ⟨hp, by simpa using h0⟩
      cases h1 : (((s[s.size - 1]'(by omega)).toNat : Int) != c) with
      | true =>
        go_enter Try.func22, Try.ntmps22
        go_wp2
        go_ret
        exact Weak.no
      | false =>
        go_enter Try.func22, Try.ntmps22
        go_wp2
        go_loop [8] (fun i => ∃ k : Nat, 1 ≤ k ∧ k ≤ s.size - 1 ∧ i = .int .i64 k) (fun i => s.size - (intOf i).toNat)
        case atStart => exact ⟨1, by omega, by omega, rfl⟩
        case round =>
          obtain ⟨k, hk1, hk2, rfl⟩ := hrel
          clear h0 h1
          by_cases hlt : k < s.size - 1
          · have hks : k < s.size := by omega
            rcases blank_cases ((s[k]'hks).toNat : Int) with h | h | h | h | ⟨g1, g2, g3, g4⟩
            case inr.inr.inr.inr =>
              go_wp2
              go_ret
              exact Weak.no
            all_goals
              go_wp2
              go_round
              case rel => exact ⟨k + 1, by omega, by omega, by go_num⟩
              case measure => simp [intOf]; omega
          · go_wp2
            go_ret
            exact Weak.some _ HH.out

/-- Of the two brackets alone it says yes. -/
theorem isEmpty_two (s : ByteArray) (o c : Int) (hs : s.size = 2) (h0 : ((s[0]'(by omega)).toNat : Int) = o) (h1 : ((s[1]'(by omega)).toNat : Int) = c) (w : World) :
    Calls Try.prog 22 #[.string s, .int .u8 o, .int .u8 c] w fun e w' => e = .returned (.bool true) ∧ w = w' := by
  go_enter Try.func22, Try.ntmps22
  go_wp2
  refine wp_loop_rounds 1 ?_
  rw [rounds_succ]
  go_wp2
  go_ret
  exact ⟨rfl, rfl⟩

/-! ### zzIsNumber at a digit, at '-', at '-1' -/
theorem isNumber_zero (s : ByteArray) (hs : s.size = 1) (h0 : ((s[0]'(by omega)).toNat : Int) = 48) (w : World) :
    Calls Try.prog 17 #[.string s] w fun e w' => e = .returned (.bool true) ∧ w = w' := by
  go_enter Try.func17, Try.ntmps17
  go_wp2
  go_ret
  exact ⟨rfl, rfl⟩
theorem isNumber_minus (s : ByteArray) (hs : s.size = 1) (h0 : ((s[0]'(by omega)).toNat : Int) = 45) (w : World) :
    Calls Try.prog 17 #[.string s] w fun e w' => e = .returned (.bool false) ∧ w = w' := by
  go_enter Try.func17, Try.ntmps17
  go_wp2
  go_ret
  exact ⟨rfl, rfl⟩
set_option maxRecDepth 100000 in
theorem isNumber_pos (s : ByteArray) (c : Int) (hs : s.size = 1) (h0 : ((s[0]'(by omega)).toNat : Int) = c) (h1 : 49 ≤ c) (h2 : c ≤ 57) (w : World) :
    Calls Try.prog 17 #[.string s] w fun e w' => e = .returned (.bool true) ∧ w = w' := by
  have e1 : (c == 45) = false := beq_eq_false_iff_ne.2 (by omega)
  have e2 : (c == 48) = false := beq_eq_false_iff_ne.2 (by omega)
  have e3 : decide (49 ≤ c) = true := decide_eq_true h1
  have e4 : decide (c ≤ 57) = true := decide_eq_true h2
  have e5 : decB c = true := by simp [decB]; omega
  go_enter Try.func17, Try.ntmps17
  go_wp2
  refine wp_loop_rounds 2 ?_
  rw [rounds_succ]
  go_wp2_with (go_at_call 23; refine (isDec_any _ _).mono ?_; rintro e w' ⟨rfl, rfl⟩)
  rw [rounds_succ]
  go_wp2
  go_ret
  exact ⟨rfl, rfl⟩
set_option maxRecDepth 100000 in
theorem isNumber_minus1 (s : ByteArray) (hs : s.size = 2) (h0 : ((s[0]'(by omega)).toNat : Int) = 45) (h1 : ((s[1]'(by omega)).toNat : Int) = 49) (w : World) :
    Calls Try.prog 17 #[.string s] w fun e w' => e = .returned (.bool true) ∧ w = w' := by
  go_enter Try.func17, Try.ntmps17
  go_wp2
  refine wp_loop_rounds 2 ?_
  rw [rounds_succ]
  go_wp2_with (go_at_call 23; refine (isDec_any _ _).mono ?_; rintro e w' ⟨rfl, rfl⟩)
  rw [rounds_succ]
  go_wp2
  go_ret
  exact ⟨rfl, rfl⟩
end Go.Proofs.Qxb6619345a
