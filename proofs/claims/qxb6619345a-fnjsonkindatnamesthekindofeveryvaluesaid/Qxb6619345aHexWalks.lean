/-
  THE WALKS that the two laws on hexValue share: zzHexDigit (9), hexValue (18), ZZhexValue (8): what each returns, in the words of HexLaw; none of them turns the world.
-/
import Derived.Test.Qxb6619345aRows
import Derived.Test.Qxb6619345aHexLaw
import Derived.WalkKit
import Derived.WalkSpells
import Derived.WalkLawsBesides
namespace Go.Proofs.Qxb6619345a
open Go.RowKit

theorem tup_u32 {a a' : Int} {b b' : Bool} (h : a = a') (k : b = b') : Ending.returned (.tuple #[.int .u32 a, .bool b]) = .returned (.tuple #[.int .u32 a', .bool b']) := by rw [h, k]
theorem tup_hex {a a' b b' : Int} (h : a = a') (k : b = b') : Ending.returned (.tuple #[.int .i32 a, .int .i64 b]) = .returned (.tuple #[.int .i32 a', .int .i64 b']) := by rw [h, k]

set_option maxHeartbeats 400000 in
theorem hexDigit_any (c : Int) (w : World) :
    Calls Try.prog 9 #[.int .u8 c] w fun e w' => e = .returned (.tuple #[.int .u32 (hxv c), .bool (hxb c)]) ∧ w = w' := by
  go_enter Try.func9, Try.ntmps9
  go_wp2
  go_loop [4] (fun i => ∃ k : Nat, k ≤ 16 ∧ i = .int .i64 k ∧ Hid (∀ j, j < k → lowc j ≠ c ∧ upc j ≠ c)) (fun i => 16 - (intOf i).toNat)
  case atStart => exact ⟨0, by omega, rfl, show ∀ j, j < 0 → _ from fun j hj => absurd hj (by omega)⟩
  case round =>
    obtain ⟨k, hk, rfl, H⟩ := hrel
    by_cases hlt : k < 16
    · go_wp2
      · have E := way_low (c := c) hlt (by assumption)
        go_ret2
        exact ⟨tup_u32 E.1.symm E.2.symm, rfl⟩
      · have E := way_either (c := c) hlt (by assumption)
        go_ret2
        exact ⟨tup_u32 E.1.symm E.2.symm, rfl⟩
      · have N := way_neither (c := c) hlt (by assumption) H.out
        go_round
        case rel => exact ⟨k + 1, by omega, by go_num, N⟩
        case measure => simp [intOf]; omega
    · go_wp2
      go_ret2
      obtain rfl : k = 16 := by omega
      have := hx_miss H.out
      exact ⟨tup_u32 this.1.symm this.2.symm, rfl⟩

/-- WHAT IS KNOWN OF A ROW OF BYTES: it is empty, or it lies at an address, a cell a byte. -/
def Bts (w : World) (a : Option Addr) (zs : List Int) : Prop :=
  zs = [] ∨ ∃ b off, a = some ⟨b, off, none⟩ ∧ ∀ i, i < zs.length → w.cell? ⟨b, off + i, none⟩ = some (.int .u8 (zs.getD i 0))
/-- Each is a byte. -/
def Byt (zs : List Int) : Prop := ∀ i, 0 ≤ zs.getD i 0 ∧ zs.getD i 0 ≤ 255

theorem take_snoc_getD (l : List Int) (k : Nat) (h : k < l.length) : l.take (k + 1) = l.take k ++ [l.getD k 0] := by
  rw [List.take_succ_eq_append_getElem h, List.getD_eq_getElem?_getD, List.getElem?_eq_getElem h]; rfl

/-- One digit more. -/
theorem rel_digit {zs : List Int} {k : Nat} {c d : Int} (hk : k < zs.length) (hc : zs.getD k 0 = c) (hh : ∀ x ∈ zs.take k, hxb x = true) (hd : hxb c = true) (hv : hxv c = d) :
    (∀ x ∈ zs.take (k + 1), hxb x = true) ∧ bits .or .i32 (wrap32 (wrap32 (hexI (zs.take k)) * 16)) d = wrap32 (hexI (zs.take (k + 1))) := by
  have e := take_snoc_getD zs k hk
  rw [hc] at e
  refine ⟨fun x hx => ?_, ?_⟩
  · rw [e] at hx
    rcases List.mem_append.1 hx with h | h
    · exact hh x h
    · simp at h; subst h; exact hd
  · subst hv
    rw [or_digit _ _ (hxv_bd c).1 (hxv_bd c).2, wrap_step, e, hexI_snoc]

theorem end_stop {zs : List Int} {k : Nat} {c : Int} (hk : k < zs.length) (hc : zs.getD k 0 = c) (hh : ∀ x ∈ zs.take k, hxb x = true) (hd : hxb c = false) :
    wrap32 (hexI (zs.take k)) = hexR zs ∧ (k : Int) = hexN zs := by
  have e : zs.getD k 0 = zs[k] := by
    rw [List.getD_eq_getElem?_getD, List.getElem?_eq_getElem hk]; rfl
  have r := run_stop hk hh (by rw [← e, hc]; exact hd)
  unfold hexR hexN
  rw [r]
  exact ⟨rfl, by simp; omega⟩
theorem end_all {zs : List Int} {k : Nat} (hk : zs.length ≤ k) (hh : ∀ x ∈ zs.take k, hxb x = true) :
    wrap32 (hexI (zs.take k)) = hexR zs ∧ (zs.length : Int) = hexN zs := by
  rw [List.take_of_length_le hk] at hh ⊢
  unfold hexR hexN
  rw [run_all hh]
  exact ⟨rfl, rfl⟩

set_option maxHeartbeats 1000000 in
theorem hexValue_any (a : Option Addr) (n cap : Nat) (zs : List Int) (w : World) (hn : zs.length = n) (hm : n ≤ 1048576) (hb : Bts w a zs) (hz : Byt zs) :
    Calls Try.prog 18 #[.slice a n cap] w fun e w' => e = .returned (.tuple #[.int .i32 (hexR zs), .int .i64 (hexN zs)]) ∧ w = w' := by
  rcases hb with rfl | ⟨b, off, rfl, hcell⟩
  · obtain rfl : n = 0 := by simpa using hn.symm
    clear hn hm
    go_enter Try.func18, Try.ntmps18
    go_wp2
    refine wp_loop_rounds 1 ?_
    rw [rounds_succ]
    go_wp2
    go_ret2
    exact ⟨tup_hex (by simp [hexR, run, hexI, wrap32]) (by simp [hexN, run]), rfl⟩
  · have HC : Hid (∀ i, i < n → w.cell? ⟨b, off + i, none⟩ = some (.int .u8 (zs.getD i 0))) := by rw [← hn]; exact hcell
    have HZ : Hid (Byt zs) := hz
    have HN : Hid (zs.length = n) := hn
    clear hcell hz hn
    go_enter Try.func18, Try.ntmps18
    go_wp2
    go_loop [4, 9] (fun r i => ∃ k : Nat, k ≤ n ∧ i = .int .i64 k ∧ r = .int .i32 (wrap32 (hexI (zs.take k))) ∧ Hid (∀ x ∈ zs.take k, hxb x = true)) (fun _ i => n - (intOf i).toNat)
    case atStart => exact ⟨0, by omega, rfl, by simp [hexI, wrap32], show ∀ x ∈ zs.take 0, _ from by simp⟩
    case round =>
      obtain ⟨k, hk, rfl, rfl, HH⟩ := hrel
      by_cases hlt : k < n
      · have hc := HC.out k hlt
        have hz0 := HZ.out k
        generalize hcd : zs.getD k 0 = c at hc hz0
        have HD : Hid (zs.getD k 0 = c) := hcd
        clear hcd
        obtain ⟨hz1, hz2⟩ := hz0
        rcases (show (48 ≤ c ∧ c ≤ 57) ∨ (97 ≤ c ∧ c ≤ 102) ∨ (65 ≤ c ∧ c ≤ 70) ∨ (c < 48 ∨ (57 < c ∧ c < 65) ∨ (70 < c ∧ c < 97) ∨ 102 < c) from by omega) with ⟨h1, h2⟩ | ⟨h1, h2⟩ | ⟨h1, h2⟩ | h
        · have R : Hid (_ ∧ _) := rel_digit (by rw [HN.out]; exact hlt) HD.out HH.out ((hxb_iff c).2 (by omega)) (hxv_dec h1 h2)
          go_wp2
          go_round
          case rel => exact ⟨k + 1, by omega, by go_num, by rw [R.out.2], R.out.1⟩
          case measure => simp [intOf]; omega
        · have R : Hid (_ ∧ _) := rel_digit (by rw [HN.out]; exact hlt) HD.out HH.out ((hxb_iff c).2 (by omega)) (hxv_low h1 h2)
          go_wp2
          go_round
          case rel => exact ⟨k + 1, by omega, by go_num, by rw [R.out.2], R.out.1⟩
          case measure => simp [intOf]; omega
        · have R : Hid (_ ∧ _) := rel_digit (by rw [HN.out]; exact hlt) HD.out HH.out ((hxb_iff c).2 (by omega)) (hxv_up h1 h2)
          go_wp2
          go_round
          case rel => exact ⟨k + 1, by omega, by go_num, by rw [R.out.2], R.out.1⟩
          case measure => simp [intOf]; omega
        · have E : Hid (_ ∧ _) := end_stop (by rw [HN.out]; exact hlt) HD.out HH.out ((hxb_no c).2 (by omega))
          rcases h with h | ⟨h1, h2⟩ | ⟨h1, h2⟩ | h
          all_goals
            go_wp2
            go_ret2
            exact ⟨tup_hex E.out.1 E.out.2, rfl⟩
      · have E : Hid (_ ∧ _) := end_all (zs := zs) (k := k) (by rw [HN.out]; omega) HH.out
        go_wp2
        go_ret2
        exact ⟨tup_hex E.out.1 (by rw [← E.out.2, HN.out]), rfl⟩

theorem ZZhexValue_any (a : Option Addr) (n cap : Nat) (zs : List Int) (w : World) (hn : zs.length = n) (hm : n ≤ 1048576) (hb : Bts w a zs) (hz : Byt zs) :
    Calls Try.prog 8 #[.slice a n cap] w fun e w' => e = .returned (.tuple #[.int .i32 (hexR zs), .int .i64 (hexN zs)]) ∧ w = w' := by
  have HV := hexValue_any a n cap zs w hn hm hb hz
  have H : Hid (Calls Try.prog 18 #[.slice a n cap] w fun e w' => e = .returned (.tuple #[.int .i32 (hexR zs), .int .i64 (hexN zs)]) ∧ w = w') := HV
  clear HV hb hz hn
  go_enter Try.func8, Try.ntmps8
  go_wp2_with (go_at_call 18; refine H.out.mono ?_; rintro e w' ⟨rfl, rfl⟩)
  go_ret2
  exact ⟨rfl, rfl⟩

end Go.Proofs.Qxb6619345a
