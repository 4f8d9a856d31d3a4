/-
  zzIsNumber (17), zzIsDec (23): it answers some bool, turns nothing, and says yes only of a string whose first byte begins a number.
-/
import Derived.Test.Qxb6619345aHexWalks
import Derived.WalkKit
import Derived.WalkSpells
import Derived.WalkLawsBesides
import Derived.Deep.DeepCutAuto
namespace Go.Proofs.Qxb6619345a
open Go.RowKit

/-- The string opens with a byte that begins a number. -/
def numHead (s : ByteArray) : Prop := ∃ hp : 0 < s.size, ((s[0]'hp).toNat : Int) = 45 ∨ (48 ≤ ((s[0]'hp).toNat : Int) ∧ ((s[0]'hp).toNat : Int) ≤ 57)
/-- A test that answers some bool, leaves the world as it was, and where it says yes, p holds. -/
def Weak (w : World) (p : Prop) (e : Ending) (w' : World) : Prop := ∃ b : Bool, e = .returned (.bool b) ∧ w = w' ∧ (b = true → p)
theorem Weak.no {w : World} {p : Prop} : Weak w p (.returned (.bool false)) w := ⟨false, rfl, rfl, (fun e => by cases e)⟩
theorem Weak.some {w : World} {p : Prop} (b : Bool) (h : p) : Weak w p (.returned (.bool b)) w := ⟨b, rfl, rfl, fun _ => h⟩

def decB (c : Int) : Bool := decide (48 ≤ c) && decide (c ≤ 57)
theorem isDec_any (c : Int) (w : World) :
    Calls Try.prog 23 #[.int .u8 c] w fun e w' => e = .returned (.bool (decB c)) ∧ w = w' := by
  by_cases h1 : 48 ≤ c
  · by_cases h2 : c ≤ 57
    · have e : decB c = true := by simp [decB, h1, h2]
      rw [e]
      clear e
      go_enter Try.func23, Try.ntmps23
      go_wp2
      go_ret
      exact ⟨rfl, rfl⟩
    · have e : decB c = false := by simp [decB, h2]
      rw [e]
      clear e
      have h3 : decide (c ≤ 57) = false := decide_eq_false h2
      go_enter Try.func23, Try.ntmps23
      go_wp2
      go_ret
      exact ⟨rfl, rfl⟩
  · have e : decB c = false := by simp [decB, h1]
    rw [e]
    clear e
    have h3 : decide (48 ≤ c) = false := decide_eq_false h1
    go_enter Try.func23, Try.ntmps23
    go_wp2
    go_ret
    exact ⟨rfl, rfl⟩

theorem numHead_of {s : ByteArray} (hp : 0 < s.size) {k : Nat} (hk : k < s.size) (HK : k = 0 ∨ ((s[0]'hp).toNat : Int) = 45) (h : 48 ≤ ((s[k]'hk).toNat : Int) ∧ ((s[k]'hk).toNat : Int) ≤ 57) : numHead s := by
  rcases HK with rfl | h0
  · exact ⟨hp, .inr h⟩
  · exact ⟨hp, .inl h0⟩

theorem numHead_pos {s : ByteArray} (hp : 0 < s.size) {k : Nat} (hk : k < s.size) (HK : k = 0 ∨ ((s[0]'hp).toNat : Int) = 45) (h1 : 49 ≤ ((s[k]'hk).toNat : Int)) (h2 : ((s[k]'hk).toNat : Int) ≤ 57) : numHead s :=
  numHead_of hp hk HK ⟨by omega, h2⟩
theorem numHead_zero {s : ByteArray} (hp : 0 < s.size) {k : Nat} (hk : k < s.size) (HK : k = 0 ∨ ((s[0]'hp).toNat : Int) = 45) (h : (((s[k]'hk).toNat : Int) == 48) = true) : numHead s := by
  have h := beq_iff_eq.1 h
  exact numHead_of hp hk HK ⟨by omega, by omega⟩

set_option maxRecDepth 100000 in
set_option maxHeartbeats 4000000 in
theorem isNumber_weak (s : ByteArray) (hs : s.size ≤ 1048576) (hp : 0 < s.size) (w : World) :
    Calls Try.prog 17 #[.string s] w (Weak w (numHead s)) := by
  go_enter Try.func17, Try.ntmps17
  go_upto_if 17 with fail
  go_cut [3] from 7 (fun i wr => ∃ k : Nat, k ≤ s.size ∧ i = .int .i64 k ∧ wr = w ∧ Hid (k = 0 ∨ ((s[0]'hp).toNat : Int) = 45))
  case first =>
    go_wp2
    · go_meet
      case rel => exact ⟨1, by omega, rfl, rfl, .inr (beq_iff_eq.1 (by assumption))⟩
    · go_meet
      case rel => exact ⟨0, by omega, rfl, rfl, .inl rfl⟩
  case rest =>
    obtain ⟨k, hk, rfl, rfl, HK⟩ := hcut
    by_cases hlt : k < s.size
    · have d5 : decide (s.size ≤ k) = false := decide_eq_false (by omega)
      go_upto_region 7 with fail
      go_cut [26] from 7 (fun t wr => ∃ b : Bool, t = .bool b ∧ wr = wc ∧ Hid (b = (((s[k]'hlt).toNat : Int) == 48)))
      case first =>
        go_wp2
        go_meet
        case rel => exact ⟨_, rfl, rfl, rfl⟩
      case rest =>
        obtain ⟨b, rfl, rfl, HB0⟩ := hcut
        go_upto_if 26 with fail
        go_cut [3] from 7 (fun i wr => ∃ k : Nat, k ≤ s.size ∧ i = .int .i64 k ∧ wr = wc ∧ Hid (numHead s))
        case first =>
          cases b with
          | true =>
            have HN : Hid (numHead s) := numHead_zero hp hlt HK.out HB0.out.symm
            go_wp2
            go_meet
            case rel => exact ⟨k + 1, by omega, by go_num, rfl, HN⟩
          | false =>
            have hne : ((s[k]'hlt).toNat : Int) ≠ 48 := beq_eq_false_iff_ne.1 HB0.out.symm
            rcases (show (49 ≤ ((s[k]'hlt).toNat : Int) ∧ ((s[k]'hlt).toNat : Int) ≤ 57) ∨ ((s[k]'hlt).toNat : Int) < 48 ∨ 57 < ((s[k]'hlt).toNat : Int) from by omega) with ⟨h1, h2⟩ | h | h
            all_goals clear hne
            · have HN : Hid (numHead s) := numHead_pos hp hlt HK.out h1 h2
              have e2 : decide (49 ≤ ((s[k]'hlt).toNat : Int)) = true := decide_eq_true h1
              have e3 : decide (((s[k]'hlt).toNat : Int) ≤ 57) = true := decide_eq_true h2
              go_wp2
              go_loop [3] (fun i => ∃ m : Nat, m ≤ s.size ∧ i = .int .i64 m) (fun i => s.size - (intOf i).toNat)
              case atStart => exact ⟨k, by omega, rfl⟩
              case round =>
                obtain ⟨m, hm, rfl⟩ := hrel
                by_cases hms : m < s.size
                · cases hd : decB ((s[m]'hms).toNat : Int) with
                  | true =>
                    go_wp2_with (go_at_call 23; refine (isDec_any _ _).mono ?_; rintro e w' ⟨rfl, rfl⟩)
                    go_round
                    case rel => exact ⟨m + 1, by omega, by go_num⟩
                    case measure => simp [intOf]; omega
                  | false =>
                    go_wp2_with (go_at_call 23; refine (isDec_any _ _).mono ?_; rintro e w' ⟨rfl, rfl⟩)
                    go_meet
                    case rel => exact ⟨m, by omega, by go_num, rfl, HN⟩
                · have hms2 : decide ((m : Int) < s.size) = false := decide_eq_false (by omega)
                  go_wp2
                  go_meet
                  case rel => exact ⟨m, by omega, by go_num, rfl, HN⟩
            · have e2 : decide (49 ≤ ((s[k]'hlt).toNat : Int)) = false := decide_eq_false (by omega)
              go_wp2
              go_ret
              exact Weak.no
            · have e3 : decide (((s[k]'hlt).toNat : Int) ≤ 57) = false := decide_eq_false (by omega)
              go_wp2
              go_ret
              exact Weak.no
        case rest =>
          obtain ⟨k, hk, rfl, rfl, HN⟩ := hcut
          go_upto_region 13 with fail
          go_cut [58] from 7 (fun t wr => ∃ b : Bool, t = .bool b ∧ wr = wc ∧ Hid (b = true → k < s.size))
          case first =>
            by_cases hks : k < s.size
            · go_wp2
              go_meet
              case rel => exact ⟨_, rfl, rfl, fun _ => hks⟩
            · have hks2 : decide (k < s.size) = false := decide_eq_false (by omega)
              go_wp2
              go_meet
              case rel => exact ⟨false, rfl, rfl, (fun e => by cases e)⟩
          case rest =>
            obtain ⟨b, rfl, rfl, HBk⟩ := hcut
            go_upto_if 58 with fail
            go_cut [3] from 7 (fun i wr => ∃ k : Nat, k ≤ s.size ∧ i = .int .i64 k ∧ wr = wc)
            case first =>
              cases b with
              | false =>
                go_wp2
                go_meet
                case rel => exact ⟨k, by omega, rfl, rfl⟩
              | true =>
                have hks := HBk.out rfl
                go_wp2
                go_loop [3] (fun i => ∃ m : Nat, m ≤ s.size ∧ i = .int .i64 m) (fun i => s.size - (intOf i).toNat)
                case atStart => exact ⟨k + 1, by omega, by go_num⟩
                case round =>
                  obtain ⟨m, hm, rfl⟩ := hrel
                  by_cases hms : m < s.size
                  · cases hd : decB ((s[m]'hms).toNat : Int) with
                    | true =>
                      go_wp2_with (go_at_call 23; refine (isDec_any _ _).mono ?_; rintro e w' ⟨rfl, rfl⟩)
                      go_round
                      case rel => exact ⟨m + 1, by omega, by go_num⟩
                      case measure => simp [intOf]; omega
                    | false =>
                      go_wp2_with (go_at_call 23; refine (isDec_any _ _).mono ?_; rintro e w' ⟨rfl, rfl⟩)
                      · go_ret
                        exact Weak.no
                      · go_meet
                        case rel => exact ⟨m, by omega, by go_num, rfl⟩
                  · have hms2 : decide ((m : Int) < s.size) = false := decide_eq_false (by omega)
                    go_wp2
                    · go_ret
                      exact Weak.no
                    · go_meet
                      case rel => exact ⟨m, by omega, by go_num, rfl⟩
            case rest =>
              obtain ⟨k, hk, rfl, rfl⟩ := hcut
              go_upto_region 20 with fail
              go_cut [90] from 7 (fun t wr => ∃ b : Bool, t = .bool b ∧ wr = wc ∧ Hid (b = true → k < s.size))
              case first =>
                by_cases hks : k < s.size
                · cases he : (((s[k]'hks).toNat : Int) == 101) with
                  | true =>
                    go_wp2
                    go_meet
                    case rel => exact ⟨_, rfl, rfl, fun _ => hks⟩
                  | false =>
                    go_wp2
                    go_meet
                    case rel => exact ⟨_, rfl, rfl, fun _ => hks⟩
                · have hks2 : decide (k < s.size) = false := decide_eq_false (by omega)
                  go_wp2
                  go_meet
                  case rel => exact ⟨false, rfl, rfl, (fun e => by cases e)⟩
              case rest =>
                obtain ⟨b, rfl, rfl, HBk⟩ := hcut
                go_upto_if 90 with fail
                go_cut [3] from 7 (fun i wr => ∃ k : Nat, k ≤ s.size ∧ i = .int .i64 k ∧ wr = wc)
                case first =>
                  cases b with
                  | false =>
                    go_wp2
                    go_meet
                    case rel => exact ⟨k, by omega, rfl, rfl⟩
                  | true =>
                    have hks := HBk.out rfl
                    go_upto_region 22 with fail
                    go_cut [107] from 7 (fun t wr => ∃ b : Bool, t = .bool b ∧ wr = wc ∧ Hid (b = true → k + 1 < s.size))
                    case first =>
                      by_cases hks : k + 1 < s.size
                      · cases he : (((s[k + 1]'hks).toNat : Int) == 43) with
                        | true =>
                          go_wp2
                          go_meet
                          case rel => exact ⟨_, rfl, rfl, fun _ => hks⟩
                        | false =>
                          go_wp2
                          go_meet
                          case rel => exact ⟨_, rfl, rfl, fun _ => hks⟩
                      · have hks2 : decide ((k : Int) + 1 < s.size) = false := decide_eq_false (by omega)
                        go_wp2
                        go_meet
                        case rel => exact ⟨false, rfl, rfl, (fun e => by cases e)⟩
                    case rest =>
                      obtain ⟨b, rfl, rfl, HBk2⟩ := hcut
                      go_upto_if 107 with fail
                      go_cut [3] from 7 (fun i wr => ∃ k : Nat, k ≤ s.size ∧ i = .int .i64 k ∧ wr = wc)
                      case first =>
                        cases b with
                        | false =>
                          go_wp2
                          go_meet
                          case rel => exact ⟨k + 1, by omega, by go_num, rfl⟩
                        | true =>
                          have hks3 := HBk2.out rfl
                          go_wp2
                          go_meet
                          case rel => exact ⟨k + 2, by omega, by go_num, rfl⟩
                      case rest =>
                        obtain ⟨k, hk, rfl, rfl⟩ := hcut
                        go_wp2
                        go_loop [3] (fun i => ∃ m : Nat, m ≤ s.size ∧ i = .int .i64 m) (fun i => s.size - (intOf i).toNat)
                        case atStart => exact ⟨k, by omega, by go_num⟩
                        case round =>
                          obtain ⟨m, hm, rfl⟩ := hrel
                          by_cases hms : m < s.size
                          · cases hd : decB ((s[m]'hms).toNat : Int) with
                            | true =>
                              go_wp2_with (go_at_call 23; refine (isDec_any _ _).mono ?_; rintro e w' ⟨rfl, rfl⟩)
                              go_round
                              case rel => exact ⟨m + 1, by omega, by go_num⟩
                              case measure => simp [intOf]; omega
                            | false =>
                              go_wp2_with (go_at_call 23; refine (isDec_any _ _).mono ?_; rintro e w' ⟨rfl, rfl⟩)
                              · go_ret
                                exact Weak.no
                              · go_meet
                                case rel => exact ⟨m, by omega, by go_num, rfl⟩
                          · have hms2 : decide ((m : Int) < s.size) = false := decide_eq_false (by omega)
                            go_wp2
                            · go_ret
                              exact Weak.no
                            · go_meet
                              case rel => exact ⟨m, by omega, by go_num, rfl⟩
                case rest =>
                  obtain ⟨k, hk, rfl, rfl⟩ := hcut
                  go_wp2
                  go_ret
                  exact Weak.some _ HN.out
    · go_wp2
      go_ret
      exact Weak.no
end Go.Proofs.Qxb6619345a
