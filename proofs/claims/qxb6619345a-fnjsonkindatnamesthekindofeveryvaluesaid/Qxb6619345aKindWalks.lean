/-
  zzKindOf (16): what it names is the kind that the first byte begins, or nothing; and what it names at the short witnesses.
-/
import Derived.Test.Qxb6619345aStrWalks
import Derived.Laws.BytesArg
namespace Go.Proofs.Qxb6619345a
open Go.RowKit

theorem head_of {s : ByteArray} (hp : 0 < s.size) {c : UInt8} {l : List UInt8} (h : s.toList = c :: l) : ((s[0]'hp).toNat : Int) = c.toNat := by
  rw [ByteArray.toList_eq] at h
  have : s.data.toList[0]'(by simpa using hp) = c := by simp [h]
  rw [← this]
  rfl
/-- A string whose first byte is another's is not that word. -/
theorem other_word {s : ByteArray} (hp : 0 < s.size) {c : Int} (hc : ((s[0]'hp).toNat : Int) = c) (x : UInt8) (l : List UInt8) (h : c ≠ x.toNat) : (s.toList == x :: l) = false := by
  have hn : s.toList ≠ x :: l := fun e => h (by rw [← hc]; exact head_of hp e)
  exact beq_eq_false_iff_ne.2 hn

/-- What is named where the first byte is c. -/
def kTF : ByteArray := ⟨#[116, 114, 117, 101, 32, 111, 114, 32, 102, 97, 108, 115, 101]⟩
def kNull : ByteArray := ⟨#[110, 117, 108, 108]⟩
def kNum : ByteArray := ⟨#[97, 32, 110, 117, 109, 98, 101, 114]⟩
def kStr : ByteArray := ⟨#[97, 32, 115, 116, 114, 105, 110, 103]⟩
def kArr : ByteArray := ⟨#[97, 110, 32, 97, 114, 114, 97, 121]⟩
def kObj : ByteArray := ⟨#[97, 110, 32, 111, 98, 106, 101, 99, 116]⟩
def kNone : ByteArray := ⟨#[]⟩
def KindIs (c : Int) (k : ByteArray) : Prop :=
  k = kNone ∨ (k = kTF ∧ (c = 116 ∨ c = 102)) ∨ (k = kNull ∧ c = 110) ∨ (k = kNum ∧ (c = 45 ∨ (48 ≤ c ∧ c ≤ 57))) ∨ (k = kStr ∧ c = 34) ∨ (k = kArr ∧ c = 91) ∨ (k = kObj ∧ c = 123)

def Named (w : World) (c : Int) (e : Ending) (w' : World) : Prop := ∃ k, e = .returned (.string k) ∧ w = w' ∧ KindIs c k

set_option maxRecDepth 100000 in
set_option maxHeartbeats 2000000 in
theorem kindOf_weak (s : ByteArray) (c : Int) (hs : s.size ≤ 1048576) (hp : 0 < s.size) (hc : ((s[0]'hp).toNat : Int) = c) (w : World) :
    Calls Try.prog 16 #[.string s] w (Named w c) := by
  have HC : Hid (((s[0]'hp).toNat : Int) = c) := hc
  clear hc
  cases hT : (s.toList == [116, 114, 117, 101]) with
  | true =>
    have e : Hid (((s[0]'hp).toNat : Int) = 116) := head_of hp (beq_iff_eq.1 hT)
    go_enter Try.func16, Try.ntmps16
    go_wp2
    go_ret
    exact ⟨kTF, rfl, rfl, .inr (.inl ⟨rfl, .inl (by rw [← HC.out, e.out])⟩)⟩
  | false =>
    cases hF : (s.toList == [102, 97, 108, 115, 101]) with
    | true =>
      have e : Hid (((s[0]'hp).toNat : Int) = 102) := head_of hp (beq_iff_eq.1 hF)
      go_enter Try.func16, Try.ntmps16
      go_wp2
      go_ret
      exact ⟨kTF, rfl, rfl, .inr (.inl ⟨rfl, .inr (by rw [← HC.out, e.out])⟩)⟩
    | false =>
      cases hN : (s.toList == [110, 117, 108, 108]) with
      | true =>
        have e : Hid (((s[0]'hp).toNat : Int) = 110) := head_of hp (beq_iff_eq.1 hN)
        go_enter Try.func16, Try.ntmps16
        go_wp2
        go_ret
        exact ⟨kNull, rfl, rfl, .inr (.inr (.inl ⟨rfl, by rw [← HC.out, e.out]⟩))⟩
      | false =>
        go_enter Try.func16, Try.ntmps16
        go_wp2_with fail
        refine (isNumber_weak s hs hp _).mono ?_
        rintro e w' ⟨b, rfl, rfl, h1⟩
        have H1 : Hid (b = true → numHead s) := h1
        clear h1
        cases b with
        | true =>
          have h : Hid (numHead s) := H1.out rfl
          go_wp2
          go_ret
          refine ⟨kNum, rfl, rfl, .inr (.inr (.inr (.inl ⟨rfl, ?_⟩)))⟩
          obtain ⟨_, h⟩ := h.out
          rw [HC.out] at h
          exact h
        | false =>
          go_wp2_with fail
          refine (isString_weak s hs hp _).mono ?_
          rintro e w' ⟨b, rfl, rfl, h1⟩
          have H2 : Hid (b = true → headIs s 34) := h1
          clear h1
          cases b with
          | true =>
            have h : Hid (headIs s 34) := H2.out rfl
            go_wp2
            go_ret
            refine ⟨kStr, rfl, rfl, .inr (.inr (.inr (.inr (.inl ⟨rfl, ?_⟩))))⟩
            obtain ⟨_, h⟩ := h.out
            rw [HC.out] at h
            exact h
          | false =>
            go_wp2_with fail
            refine (isEmpty_weak s 91 93 hs hp _).mono ?_
            rintro e w' ⟨b, rfl, rfl, h1⟩
            have H3 : Hid (b = true → headIs s 91) := h1
            clear h1
            cases b with
            | true =>
              have h : Hid (headIs s 91) := H3.out rfl
              go_wp2
              go_ret
              refine ⟨kArr, rfl, rfl, .inr (.inr (.inr (.inr (.inr (.inl ⟨rfl, ?_⟩)))))⟩
              obtain ⟨_, h⟩ := h.out
              rw [HC.out] at h
              exact h
            | false =>
              go_wp2_with fail
              refine (isEmpty_weak s 123 125 hs hp _).mono ?_
              rintro e w' ⟨b, rfl, rfl, h1⟩
              have H4 : Hid (b = true → headIs s 123) := h1
              clear h1
              cases b with
              | true =>
                have h : Hid (headIs s 123) := H4.out rfl
                go_wp2
                go_ret
                refine ⟨kObj, rfl, rfl, .inr (.inr (.inr (.inr (.inr (.inr ⟨rfl, ?_⟩)))))⟩
                obtain ⟨_, h⟩ := h.out
                rw [HC.out] at h
                exact h
              | false =>
                go_wp2
                go_ret
                exact ⟨kNone, rfl, rfl, .inl rfl⟩

/-! ### At the witnesses -/
theorem weak_no {w : World} {p : Prop} {f : Nat} {av : Array Value} (h : Calls Try.prog f av w (Weak w p)) (hn : ¬ p) : Calls Try.prog f av w fun e w' => e = .returned (.bool false) ∧ w = w' := by
  refine h.mono ?_
  rintro e w' ⟨b, rfl, rfl, hb⟩
  cases b with
  | true => exact absurd (hb rfl) hn
  | false => exact ⟨rfl, rfl⟩
theorem not_head {s : ByteArray} (hp : 0 < s.size) {c : Int} (hc : ((s[0]'hp).toNat : Int) = c) (x : Int) (h : c ≠ x) : ¬ headIs s x := by
  rintro ⟨_, e⟩
  exact h (by rw [← hc, e])
theorem not_num {s : ByteArray} (hp : 0 < s.size) {c : Int} (hc : ((s[0]'hp).toNat : Int) = c) (h : ¬ (c = 45 ∨ (48 ≤ c ∧ c ≤ 57))) : ¬ numHead s := by
  rintro ⟨_, e⟩
  rw [hc] at e
  exact h e

/-- A string that begins no word and that zzIsNumber lets by is a number. -/
theorem kindOf_num (s : ByteArray) (c : Int) (hp : 0 < s.size) (hc : ((s[0]'hp).toNat : Int) = c) (h : c = 45 ∨ (48 ≤ c ∧ c ≤ 57)) (w : World)
    (hN : Calls Try.prog 17 #[.string s] w fun e w' => e = .returned (.bool true) ∧ w = w') :
    Calls Try.prog 16 #[.string s] w fun e w' => e = .returned (.string kNum) ∧ w = w' := by
  have n1 := other_word hp hc 116 [114, 117, 101] (by show c ≠ 116; omega)
  have n2 := other_word hp hc 102 [97, 108, 115, 101] (by show c ≠ 102; omega)
  have n3 := other_word hp hc 110 [117, 108, 108] (by show c ≠ 110; omega)
  have HN : Hid (Calls Try.prog 17 #[.string s] w fun e w' => e = .returned (.bool true) ∧ w = w') := hN
  clear hN hc
  go_enter Try.func16, Try.ntmps16
  go_wp2_with (go_at_call 17; refine HN.out.mono ?_; rintro e w' ⟨rfl, rfl⟩)
  go_ret
  exact ⟨rfl, rfl⟩
theorem kindOf_str (s : ByteArray) (hs : s.size = 2) (h0 : ((s[0]'(by omega)).toNat : Int) = 34) (h1 : ((s[1]'(by omega)).toNat : Int) = 34) (w : World) :
    Calls Try.prog 16 #[.string s] w fun e w' => e = .returned (.string kStr) ∧ w = w' := by
  have hp : 0 < s.size := by omega
  have n1 := other_word hp h0 116 [114, 117, 101] (by decide)
  have n2 := other_word hp h0 102 [97, 108, 115, 101] (by decide)
  have n3 := other_word hp h0 110 [117, 108, 108] (by decide)
  have HN : Hid (Calls Try.prog 17 #[.string s] w fun e w' => e = .returned (.bool false) ∧ w = w') := weak_no (isNumber_weak s (by omega) hp w) (not_num hp h0 (by decide))
  have HS : Hid (Calls Try.prog 21 #[.string s] w fun e w' => e = .returned (.bool true) ∧ w = w') := isString_two s hs h0 h1 w
  clear h0 h1 hs
  go_enter Try.func16, Try.ntmps16
  go_wp2_with (first | (go_at_call 17; refine HN.out.mono ?_; rintro e w' ⟨rfl, rfl⟩) | (go_at_call 21; refine HS.out.mono ?_; rintro e w' ⟨rfl, rfl⟩))
  go_ret
  exact ⟨rfl, rfl⟩
theorem kindOf_arr (s : ByteArray) (hs : s.size = 2) (h0 : ((s[0]'(by omega)).toNat : Int) = 91) (h1 : ((s[1]'(by omega)).toNat : Int) = 93) (w : World) :
    Calls Try.prog 16 #[.string s] w fun e w' => e = .returned (.string kArr) ∧ w = w' := by
  have hp : 0 < s.size := by omega
  have n1 := other_word hp h0 116 [114, 117, 101] (by decide)
  have n2 := other_word hp h0 102 [97, 108, 115, 101] (by decide)
  have n3 := other_word hp h0 110 [117, 108, 108] (by decide)
  have HN : Hid (Calls Try.prog 17 #[.string s] w fun e w' => e = .returned (.bool false) ∧ w = w') := weak_no (isNumber_weak s (by omega) hp w) (not_num hp h0 (by decide))
  have HS : Hid (Calls Try.prog 21 #[.string s] w fun e w' => e = .returned (.bool false) ∧ w = w') := weak_no (isString_weak s (by omega) hp w) (not_head hp h0 34 (by decide))
  have HE : Hid (Calls Try.prog 22 #[.string s, .int .u8 91, .int .u8 93] w fun e w' => e = .returned (.bool true) ∧ w = w') := isEmpty_two s 91 93 hs h0 h1 w
  clear h0 h1 hs
  go_enter Try.func16, Try.ntmps16
  go_wp2_with (first | (go_at_call 17; refine HN.out.mono ?_; rintro e w' ⟨rfl, rfl⟩) | (go_at_call 21; refine HS.out.mono ?_; rintro e w' ⟨rfl, rfl⟩))
  refine HE.out.mono ?_
  rintro e w' ⟨rfl, rfl⟩
  go_wp2
  go_ret
  exact ⟨rfl, rfl⟩
theorem kindOf_obj (s : ByteArray) (hs : s.size = 2) (h0 : ((s[0]'(by omega)).toNat : Int) = 123) (h1 : ((s[1]'(by omega)).toNat : Int) = 125) (w : World) :
    Calls Try.prog 16 #[.string s] w fun e w' => e = .returned (.string kObj) ∧ w = w' := by
  have hp : 0 < s.size := by omega
  have n1 := other_word hp h0 116 [114, 117, 101] (by decide)
  have n2 := other_word hp h0 102 [97, 108, 115, 101] (by decide)
  have n3 := other_word hp h0 110 [117, 108, 108] (by decide)
  have HN : Hid (Calls Try.prog 17 #[.string s] w fun e w' => e = .returned (.bool false) ∧ w = w') := weak_no (isNumber_weak s (by omega) hp w) (not_num hp h0 (by decide))
  have HS : Hid (Calls Try.prog 21 #[.string s] w fun e w' => e = .returned (.bool false) ∧ w = w') := weak_no (isString_weak s (by omega) hp w) (not_head hp h0 34 (by decide))
  have HA : Hid (Calls Try.prog 22 #[.string s, .int .u8 91, .int .u8 93] w fun e w' => e = .returned (.bool false) ∧ w = w') := weak_no (isEmpty_weak s 91 93 (by omega) hp w) (not_head hp h0 91 (by decide))
  have HE : Hid (Calls Try.prog 22 #[.string s, .int .u8 123, .int .u8 125] w fun e w' => e = .returned (.bool true) ∧ w = w') := isEmpty_two s 123 125 hs h0 h1 w
  clear h0 h1 hs
  go_enter Try.func16, Try.ntmps16
  go_wp2_with (first | (go_at_call 17; refine HN.out.mono ?_; rintro e w' ⟨rfl, rfl⟩) | (go_at_call 21; refine HS.out.mono ?_; rintro e w' ⟨rfl, rfl⟩))
  refine HA.out.mono ?_
  rintro e w' ⟨rfl, rfl⟩
  go_wp2_with fail
  refine HE.out.mono ?_
  rintro e w' ⟨rfl, rfl⟩
  go_wp2
  go_ret
  exact ⟨rfl, rfl⟩
end Go.Proofs.Qxb6619345a
