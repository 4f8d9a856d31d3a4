/-
  firstMatch (11), hasKey (13), the two bounds on total length (9, 12): what each returns.
-/
import Derived.Test.Qxb6619353aFindWalks
namespace Go.Proofs.Qxb6619353a
open Go.RowKit
open Go.WideShapes (add_plain)

set_option maxRecDepth 100000 in
set_option maxHeartbeats 1000000 in
theorem firstMatch_yes (ko : Option Addr) (n cap : Nat) (K : Nat → KeyV) (s : ByteArray) (r : Int) (w : World) (hn : n ≤ 1048576) (hs : s.size ≤ 1048576) (hK : Keys w ko n K) (hr : First (fun i => keyEq (K i).ys s) n r) :
    Calls Try.prog 11 #[.slice ko n cap, .string s, .int .i64 r] w fun e w' => e = .returned (.bool true) ∧ Below w.heap.size w w' := by
  have HK : Hid (Keys w ko n K) := hK
  clear hK
  rcases hr with ⟨rfl, h1⟩ | ⟨m, hm, rfl, h1, h2⟩
  · have H1 : Hid (∀ i, i < n → keyEq (K i).ys s = false) := h1
    clear h1
    have d1 : decide ((n : Int) ≤ -1) = false := decide_eq_false (by omega)
    go_enter Try.func11, Try.ntmps11
    go_wp2
    go_loopw [8] (fun i wr => ∃ k : Nat, k ≤ n ∧ i = .int .i64 k ∧ Hid (Below w.heap.size w wr)) (fun i _ => n - (intOf i).toNat)
    case atStart => exact ⟨0, by omega, rfl, Below.refl _ _⟩
    case round =>
      obtain ⟨k, hk, rfl, HB⟩ := hrel
      by_cases hkn : k < n
      · obtain ⟨b, off, rfl, cz, hbw⟩ := HK.out.at hkn
        rw [← HB.out.cell (p := ⟨b, off + k, none⟩) hbw] at cz
        have hno := H1.out k hkn
        have HE : Hid (Calls Try.prog 17 #[.slice (K k).a (K k).l (K k).c, .string s] wr fun e w' => e = .returned (.bool (keyEq (K k).ys s)) ∧ Below wr.heap.size wr w') := eqBytes_any (K k) s wr ((HK.out.1 k hkn).below HB.out) hs
        go_wp2_with (go_at_call 17; refine HE.out.mono ?_; rintro e w1 ⟨rfl, hB1⟩; have HB1 : Hid (Below w.heap.size w w1) := HB.out.trans (hB1.mono HB.out.size); clear hB1)
        go_roundw
        case rel => exact ⟨k + 1, by omega, by go_num, HB1⟩
        case measure => simp [intOf]; omega
      · go_wp2
        go_ret
        exact ⟨rfl, HB.out⟩
  · have H2 : Hid (∀ i, i < m → keyEq (K i).ys s = false) := h2
    have H1 : Hid (keyEq (K m).ys s = true) := h1
    clear h1 h2
    have d0 : decide ((m : Int) < -1) = false := decide_eq_false (by omega)
    have d1 : decide (n ≤ m) = false := decide_eq_false (by omega)
    have d2 : ((m : Int) == -1) = false := beq_eq_false_iff_ne.2 (by omega)
    go_enter Try.func11, Try.ntmps11
    go_wp2
    go_loopw [8] (fun i wr => ∃ k : Nat, k ≤ m ∧ i = .int .i64 k ∧ Hid (Below w.heap.size w wr)) (fun i _ => m - (intOf i).toNat)
    case atStart => exact ⟨0, by omega, rfl, Below.refl _ _⟩
    case round =>
      obtain ⟨k, hk, rfl, HB⟩ := hrel
      by_cases hkn : k < m
      · obtain ⟨b, off, rfl, cz, hbw⟩ := HK.out.at (show k < n by omega)
        rw [← HB.out.cell (p := ⟨b, off + k, none⟩) hbw] at cz
        have hno := H2.out k hkn
        have HE : Hid (Calls Try.prog 17 #[.slice (K k).a (K k).l (K k).c, .string s] wr fun e w' => e = .returned (.bool (keyEq (K k).ys s)) ∧ Below wr.heap.size wr w') := eqBytes_any (K k) s wr ((HK.out.1 k (by omega)).below HB.out) hs
        go_wp2_with (go_at_call 17; refine HE.out.mono ?_; rintro e w1 ⟨rfl, hB1⟩; have HB1 : Hid (Below w.heap.size w w1) := HB.out.trans (hB1.mono HB.out.size); clear hB1)
        go_roundw
        case rel => exact ⟨k + 1, by omega, by go_num, HB1⟩
        case measure => simp [intOf]; omega
      · obtain ⟨b, off, rfl, cz, hbw⟩ := HK.out.at hm
        rw [← HB.out.cell (p := ⟨b, off + m, none⟩) hbw] at cz
        have HE : Hid (Calls Try.prog 17 #[.slice (K m).a (K m).l (K m).c, .string s] wr fun e w' => e = .returned (.bool (keyEq (K m).ys s)) ∧ Below wr.heap.size wr w') := eqBytes_any (K m) s wr ((HK.out.1 m hm).below HB.out) hs
        go_wp2_with (go_at_call 17; refine HE.out.mono ?_; rintro e w1 ⟨rfl, hB1⟩; have HB1 : Hid (Below w.heap.size w w1) := HB.out.trans (hB1.mono HB.out.size); clear hB1)
        go_ret
        exact ⟨ret_bool H1.out, HB1.out⟩

set_option maxRecDepth 100000 in
set_option maxHeartbeats 1000000 in
theorem hasKey_any (ko : Option Addr) (n cap : Nat) (K : Nat → KeyV) (s : ByteArray) (w : World) (hn : n ≤ 1048576) (hs : s.size ≤ 1048576) (hK : Keys w ko n K) :
    Calls Try.prog 13 #[.slice ko n cap, .string s] w fun e w' => e = .returned (.bool (anyB (fun i => keyEq (K i).ys s) n)) ∧ Below w.heap.size w w' := by
  have HK : Hid (Keys w ko n K) := hK
  clear hK
  go_enter Try.func13, Try.ntmps13
  go_wp2
  go_loopw [5] (fun i wr => ∃ k : Nat, k ≤ n ∧ i = .int .i64 k ∧ Hid (Below w.heap.size w wr) ∧ Hid (∀ j, j < k → keyEq (K j).ys s = false)) (fun i _ => n - (intOf i).toNat)
  case atStart => exact ⟨0, by omega, rfl, Below.refl _ _, fun j hj => absurd hj (by omega)⟩
  case round =>
    obtain ⟨k, hk, rfl, HB, HF⟩ := hrel
    by_cases hkn : k < n
    · obtain ⟨b, off, rfl, cz, hbw⟩ := HK.out.at hkn
      rw [← HB.out.cell (p := ⟨b, off + k, none⟩) hbw] at cz
      have HE : Hid (Calls Try.prog 17 #[.slice (K k).a (K k).l (K k).c, .string s] wr fun e w' => e = .returned (.bool (keyEq (K k).ys s)) ∧ Below wr.heap.size wr w') := eqBytes_any (K k) s wr ((HK.out.1 k hkn).below HB.out) hs
      cases hb : keyEq (K k).ys s with
      | true =>
        have HT : Hid (keyEq (K k).ys s = true) := hb
        go_wp2_with (go_at_call 17; refine HE.out.mono ?_; rintro e w1 ⟨rfl, hB1⟩; have HB1 : Hid (Below w.heap.size w w1) := HB.out.trans (hB1.mono HB.out.size); clear hB1)
        go_ret
        exact ⟨ret_bool (anyB_true hkn HT.out).symm, HB1.out⟩
      | false =>
        have HT : Hid (keyEq (K k).ys s = false) := hb
        go_wp2_with (go_at_call 17; refine HE.out.mono ?_; rintro e w1 ⟨rfl, hB1⟩; have HB1 : Hid (Below w.heap.size w w1) := HB.out.trans (hB1.mono HB.out.size); clear hB1)
        go_roundw
        case rel =>
          refine ⟨k + 1, by omega, by go_num, HB1, ?_⟩
          show ∀ j, j < k + 1 → _
          intro j hj
          by_cases e : j = k
          · rw [e]; exact HT.out
          · exact HF.out j (by omega)
        case measure => simp [intOf]; omega
    · go_wp2
      go_ret
      exact ⟨ret_bool (anyB_false (fun i hi => HF.out i (by omega))).symm, HB.out⟩

/-- A list of keys, nothing known of their lengths yet. -/
def RawK (w : World) (ko : Option Addr) (n : Nat) (K : Nat → KeyV) : Prop :=
  n = 0 ∨ ∃ b off, ko = some ⟨b, off, none⟩ ∧ ∀ i, i < n → w.cell? ⟨b, off + i, none⟩ = some (.slice (K i).a (K i).l (K i).c)
theorem RawK.at {w : World} {ko : Option Addr} {n : Nat} {K : Nat → KeyV} (h : RawK w ko n K) {k : Nat} (hk : k < n) :
    ∃ b off, ko = some ⟨b, off, none⟩ ∧ w.cell? ⟨b, off + k, none⟩ = some (.slice (K k).a (K k).l (K k).c) := by
  rcases h with h | ⟨b, off, e, hc⟩
  · omega
  · exact ⟨b, off, e, hc k hk⟩
def WeakB (w : World) (p : Prop) (e : Ending) (w' : World) : Prop := ∃ b : Bool, e = .returned (.bool b) ∧ w = w' ∧ (b = true → p)
theorem WeakB.no {w : World} {p : Prop} : WeakB w p (.returned (.bool false)) w := ⟨false, rfl, rfl, (fun e => by cases e)⟩
theorem WeakB.yes {w : World} {p : Prop} (h : p) : WeakB w p (.returned (.bool true)) w := ⟨true, rfl, rfl, fun _ => h⟩
/-- The keys' lengths are within the bound. -/
def Short (K : Nat → KeyV) (n : Nat) : Prop := ∀ i, i < n → (K i).l ≤ 1048576
theorem Short.succ {K : Nat → KeyV} {k : Nat} (h : Short K k) (hk : (K k).l ≤ 1048576) : Short K (k + 1) := by
  intro i hi
  by_cases e : i = k
  · rw [e]; exact hk
  · exact h i (by omega)

/-- What the bound on total length lets by. -/
def Bound1 (K : Nat → KeyV) (n : Nat) (s : ByteArray) : Prop := n ≤ 1048576 ∧ s.size ≤ 1048576 ∧ Short K n
def Bound2 (K : Nat → KeyV) (n : Nat) (K' : Nat → KeyV) (m : Nat) (s : ByteArray) : Prop := n + m ≤ 1048576 ∧ s.size ≤ 1048576 ∧ Short K n ∧ Short K' m

set_option maxRecDepth 100000 in
set_option maxHeartbeats 1000000 in
theorem bytes9_weak (ko : Option Addr) (n cap : Nat) (K : Nat → KeyV) (s : ByteArray) (j : Int) (w : World) (hK : RawK w ko n K) :
    Calls Try.prog 9 #[.slice ko n cap, .string s, .int .i64 j] w (WeakB w (Bound1 K n s)) := by
  have HK : Hid (RawK w ko n K) := hK
  clear hK
  by_cases hn : n ≤ 1048576
  · have d0 : decide (1048576 < (n : Int)) = false := decide_eq_false (by omega)
    go_enter Try.func9, Try.ntmps9
    go_wp2
    go_loop [7, 8] (fun t i => ∃ (k : Nat) (z : Int), k ≤ n ∧ i = .int .i64 k ∧ t = .int .i64 z ∧ 0 ≤ z ∧ z ≤ 1048576 ∧ Hid (Short K k)) (fun _ i => n - (intOf i).toNat)
    case atStart => exact ⟨0, n, by omega, rfl, rfl, by omega, by omega, fun i hi => absurd hi (by omega)⟩
    case round =>
      obtain ⟨k, z, hk, rfl, rfl, hz0, hz1, HS⟩ := hrel
      by_cases hkn : k < n
      · obtain ⟨b, off, rfl, cz⟩ := HK.out.at hkn
        have HL : Hid ((K k).l ≤ 1048576 → Short K (k + 1)) := HS.out.succ
        generalize (K k).l = L at cz HL
        by_cases hL : L ≤ 1048576
        · by_cases ht : z + L ≤ 1048576
          · go_wp2
            go_round
            case rel => exact ⟨k + 1, z + L, by omega, by go_num, rfl, by omega, by omega, HL.out hL⟩
            case measure => simp [intOf]; omega
          · go_wp2
            go_ret
            exact WeakB.no
        · go_wp2
          go_ret
          exact WeakB.no
      · have HN : Hid (Short K n) := fun i hi => HS.out i (by omega)
        by_cases hs : s.size ≤ 1048576
        · by_cases ht : z + s.size ≤ 1048576
          · go_wp2
            go_ret
            exact WeakB.yes ⟨hn, hs, HN.out⟩
          · go_wp2
            go_ret
            exact WeakB.no
        · go_wp2
          go_ret
          exact WeakB.no
  · go_enter Try.func9, Try.ntmps9
    go_wp2
    go_ret
    exact WeakB.no

set_option maxRecDepth 100000 in
set_option maxHeartbeats 1000000 in
theorem bytes12_weak (ko : Option Addr) (n cap : Nat) (K : Nat → KeyV) (ko' : Option Addr) (m cap' : Nat) (K' : Nat → KeyV) (s : ByteArray) (w : World) (hK : RawK w ko n K) (hK' : RawK w ko' m K') :
    Calls Try.prog 12 #[.slice ko n cap, .slice ko' m cap', .string s] w (WeakB w (Bound2 K n K' m s)) := by
  have HK : Hid (RawK w ko n K) := hK
  have HK' : Hid (RawK w ko' m K') := hK'
  clear hK hK'
  by_cases hn : n ≤ 1048576
  · have d0 : decide (1048576 < (n : Int)) = false := decide_eq_false (by omega)
    go_enter Try.func12, Try.ntmps12
    go_wp2
    go_loop [7, 8] (fun t i => ∃ (k : Nat) (z : Int), k ≤ n ∧ i = .int .i64 k ∧ t = .int .i64 z ∧ n ≤ z ∧ z ≤ 1048576 ∧ Hid (Short K k)) (fun _ i => n - (intOf i).toNat)
    case atStart => exact ⟨0, n, by omega, rfl, rfl, by omega, by omega, fun i hi => absurd hi (by omega)⟩
    case round =>
      obtain ⟨k, z, hk, rfl, rfl, hz0, hz1, HS⟩ := hrel
      by_cases hkn : k < n
      · obtain ⟨b, off, rfl, cz⟩ := HK.out.at hkn
        have HL : Hid ((K k).l ≤ 1048576 → Short K (k + 1)) := HS.out.succ
        generalize (K k).l = L at cz HL
        by_cases hL : L ≤ 1048576
        · by_cases ht : z + L ≤ 1048576
          · go_wp2
            go_round
            case rel => exact ⟨k + 1, z + L, by omega, by go_num, rfl, by omega, by omega, HL.out hL⟩
            case measure => simp [intOf]; omega
          · go_wp2
            go_ret
            exact WeakB.no
        · go_wp2
          go_ret
          exact WeakB.no
      · have HN : Hid (Short K n) := fun i hi => HS.out i (by omega)
        by_cases hm : m ≤ 1048576
        · by_cases hzm : z + m ≤ 1048576
          · have d1 : decide (1048576 < (m : Int)) = false := decide_eq_false (by omega)
            have d2 : decide (1048576 < z + (m : Int)) = false := decide_eq_false (by omega)
            have hnm : n + m ≤ 1048576 := by omega
            go_wp2
            go_loop [7, 9] (fun t i => ∃ (k : Nat) (z : Int), k ≤ m ∧ i = .int .i64 k ∧ t = .int .i64 z ∧ 0 ≤ z ∧ z ≤ 1048576 ∧ Hid (Short K' k)) (fun _ i => m - (intOf i).toNat)
            case atStart => exact ⟨0, z + m, by omega, rfl, rfl, by omega, by omega, fun i hi => absurd hi (by omega)⟩
            case round =>
              obtain ⟨k', z', hk', rfl, rfl, hz0', hz1', HS'⟩ := hrel
              by_cases hkm : k' < m
              · obtain ⟨b, off, rfl, cz⟩ := HK'.out.at hkm
                have HL : Hid ((K' k').l ≤ 1048576 → Short K' (k' + 1)) := HS'.out.succ
                generalize (K' k').l = L at cz HL
                by_cases hL : L ≤ 1048576
                · by_cases ht : z' + L ≤ 1048576
                  · go_wp2
                    go_round
                    case rel => exact ⟨k' + 1, z' + L, by omega, by go_num, rfl, by omega, by omega, HL.out hL⟩
                    case measure => simp [intOf]; omega
                  · go_wp2
                    go_ret
                    exact WeakB.no
                · go_wp2
                  go_ret
                  exact WeakB.no
              · have HM : Hid (Short K' m) := fun i hi => HS'.out i (by omega)
                by_cases hs : s.size ≤ 1048576
                · by_cases ht : z' + s.size ≤ 1048576
                  · go_wp2
                    go_ret
                    exact WeakB.yes ⟨hnm, hs, HN.out, HM.out⟩
                  · go_wp2
                    go_ret
                    exact WeakB.no
                · go_wp2
                  go_ret
                  exact WeakB.no
          · go_wp2
            go_ret
            exact WeakB.no
        · go_wp2
          go_ret
          exact WeakB.no
  · go_enter Try.func12, Try.ntmps12
    go_wp2
    go_ret
    exact WeakB.no
end Go.Proofs.Qxb6619353a
