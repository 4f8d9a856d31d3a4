/-
  isJSONSpace (15), (*scanner).space (14), ZZScannerSpace (7), spaceStop (8): what each returns, in the words of SpaceLaw.
-/
import Derived.Test.Qxb6619353aRows
import Derived.Test.Qxb6619353aSpaceLaw
import Derived.WalkKit
import Derived.WalkSpells
import Derived.WalkLawsBesides
import Derived.Deep.LoopGhost
import Derived.Deep.QuietTactic
import Derived.BigQuiet
import Derived.Handy
namespace Go.Proofs.Qxb6619353a
open Go.RowKit

theorem isSpace_any (c : Int) (w : World) :
    Calls Try.prog 15 #[.int .u8 c] w fun e w' => e = .returned (.bool (spB c)) ∧ w = w' := by
  by_cases h : c = 32 ∨ c = 9 ∨ c = 10 ∨ c = 13
  · rw [spB_yes h]
    rcases h with rfl | rfl | rfl | rfl
    all_goals
      go_enter Try.func15, Try.ntmps15
      go_wp2
      go_ret
      exact ⟨rfl, rfl⟩
  · rw [spB_no h]
    have h1 : (c == 32) = false := beq_eq_false_iff_ne.2 (by omega)
    have h2 : (c == 9) = false := beq_eq_false_iff_ne.2 (by omega)
    have h3 : (c == 10) = false := beq_eq_false_iff_ne.2 (by omega)
    have h4 : (c == 13) = false := beq_eq_false_iff_ne.2 (by omega)
    clear h
    go_enter Try.func15, Try.ntmps15
    go_wp2
    go_ret
    exact ⟨rfl, rfl⟩

/-- WHAT IS KNOWN OF A ROW OF BYTES: it is empty, or it lies at an address, a cell a byte. -/
def Bts (w : World) (a : Option Addr) (zs : List Int) : Prop :=
  zs = [] ∨ ∃ b off, a = some ⟨b, off, none⟩ ∧ ∀ i, i < zs.length → w.cell? ⟨b, off + i, none⟩ = some (.int .u8 (zs.getD i 0))
/-- Each is a byte. -/
def Byt (zs : List Int) : Prop := ∀ i, 0 ≤ zs.getD i 0 ∧ zs.getD i 0 ≤ 255
theorem Bts.below {w w' : World} {a : Option Addr} {zs : List Int} (h : Bts w a zs) (hb : Below w.heap.size w w') : Bts w' a zs := by
  rcases h with h | ⟨b, off, e, hc⟩
  · exact .inl h
  · refine .inr ⟨b, off, e, fun i hi => ?_⟩
    have := hc i hi
    rw [← this]
    exact hb.cell (World.block_lt_of_cell? w _ this)

/-- The scanner's block: its two fields. -/
def Scan (w : World) (g : Nat) (v : Value) (p : Int) : Prop := w.heap[g]? = some (.cells #[v, .int .i64 p] 33 (0, 0))
theorem Scan.data {w : World} {g : Nat} {v : Value} {p : Int} (h : Scan w g v p) : w.cell? ⟨g, 0, none⟩ = some v := by
  unfold Scan at h; simp [World.cell?, h]
theorem Scan.pos {w : World} {g : Nat} {v : Value} {p : Int} (h : Scan w g v p) : w.cell? ⟨g, 1, none⟩ = some (.int .i64 p) := by
  unfold Scan at h; simp [World.cell?, h]
theorem Scan.free {w : World} {g : Nat} {v : Value} {p : Int} (h : Scan w g v p) : w.frozen? ⟨g, 1, none⟩ = false := by
  unfold Scan at h; simp [World.frozen?, h]
theorem Scan.set {w : World} {g : Nat} {v : Value} {p : Int} (h : Scan w g v p) (q : Int) : Scan (w.setCell ⟨g, 1, none⟩ (.int .i64 q)) g v q := by
  unfold Scan at h ⊢
  simp [World.setCell, Array.getElem?_modify, h]

set_option maxRecDepth 100000 in
set_option maxHeartbeats 1000000 in
theorem space_any (g : Nat) (a : Option Addr) (n cap p : Nat) (zs : List Int) (w : World) (hn : zs.length = n) (hm : n ≤ 1048576) (hp : p ≤ n) (hb : Bts w a zs) (hlt : ∀ b off, a = some ⟨b, off, none⟩ → zs ≠ [] → b < g)
    (hz : Byt zs) (hS : Scan w g (.slice a n cap) p) :
    Calls Try.prog 14 #[.pointer (some ⟨g, 0, none⟩)] w fun e w' => e = .returned (.tuple #[]) ∧ Below g w w' ∧ Scan w' g (.slice a n cap) (stopAt zs p) := by
  have HN : Hid (zs.length = n) := hn
  have HB : Hid (Bts w a zs) := hb
  have HL : Hid (∀ b off, a = some ⟨b, off, none⟩ → zs ≠ [] → b < g) := hlt
  have HZ : Hid (Byt zs) := hz
  have HS : Hid (Scan w g (.slice a n cap) p) := hS
  clear hn hb hlt hz hS
  go_enter Try.func14, Try.ntmps14
  go_wp2
  go_loopg [] (n - p) (fun m wr => ∃ k : Nat, m = n - k ∧ k ≤ n ∧ Below g w wr ∧ Hid (Scan wr g (.slice a n cap) k) ∧ Hid (stopAt zs k = stopAt zs p))
  case atStart => exact ⟨p, rfl, hp, Below.refl _ _, HS, rfl⟩
  case round =>
    obtain ⟨k, rfl, hk, hB, HSk, HE⟩ := hrel
    have c0 := HSk.out.data
    have c1 := HSk.out.pos
    have f1 := HSk.out.free
    by_cases hkn : k < n
    · obtain ⟨b, off, rfl, hcell⟩ : ∃ b off, a = some ⟨b, off, none⟩ ∧ ∀ i, i < zs.length → w.cell? ⟨b, off + i, none⟩ = some (.int .u8 (zs.getD i 0)) := by
        rcases HB.out with h | h
        · exfalso
          have := HN.out
          rw [h] at this
          simp at this
          omega
        · exact h
      have hk' : k < zs.length := by rw [HN.out]; exact hkn
      have hbg : b < g := HL.out b off rfl (fun e => by rw [e] at hk'; simp at hk')
      have cz : wr.cell? ⟨b, off + k, none⟩ = some (.int .u8 (zs.getD k 0)) := by
        rw [hB.cell (p := ⟨b, off + k, none⟩) hbg]
        exact hcell k hk'
      have HH : Hid (stopAt zs k = if spB (zs.getD k 0) = true then stopAt zs (k + 1) else k) := by
        show _ = _
        split
        · exact stop_go zs k hk' (by assumption)
        · exact stop_here zs k hk' (Bool.eq_false_iff.2 (by assumption))
      have HBr : Hid (Below g w wr) := hB
      generalize zs.getD k 0 = c at cz HH
      clear hcell hk' hB
      go_wp2
      go_quiet (fail)
      go_wp2
      go_quiet (fail)
      by_cases hsp : c = 32 ∨ c = 9 ∨ c = 10 ∨ c = 13
      · have HG : Hid (stopAt zs (k + 1) = stopAt zs p) := by
          have := HH.out
          rw [spB_yes hsp, if_pos rfl] at this
          show _ = _
          rw [← this, HE.out]
        clear HH HE
        rcases hsp with rfl | rfl | rfl | rfl
        all_goals
          go_wp2
          go_roundg (n - (k + 1))
          case measure => omega
          case rel => exact ⟨k + 1, rfl, by omega, (below_drewN HBr.out _).setCell (Nat.le_refl _) _, Scan.set (w := wr.drewN _) HSk.out _, HG⟩
      · have g1 : (c == 32) = false := beq_eq_false_iff_ne.2 (by omega)
        have g2 : (c == 9) = false := beq_eq_false_iff_ne.2 (by omega)
        have g3 : (c == 10) = false := beq_eq_false_iff_ne.2 (by omega)
        have g4 : (c == 13) = false := beq_eq_false_iff_ne.2 (by omega)
        have HG : Hid (stopAt zs p = k) := by
          have := HH.out
          rw [spB_no hsp] at this
          simp only [Bool.false_eq_true, if_false] at this
          show _ = _
          rw [← HE.out, this]
        clear HH HE hsp
        go_wp2
        go_returns
        exact ⟨rfl, below_drewN HBr.out _, by rw [HG.out]; exact HSk.out⟩
    · have HG : Hid (stopAt zs p = k) := by
        show _ = _
        rw [← HE.out, stop_end zs k (by rw [HN.out]; omega)]
      clear HE
      go_wp2
      go_quiet (fail)
      go_wp2
      go_end0
      exact ⟨rfl, below_drewN hB _, by rw [HG.out]; exact HSk.out⟩

set_option maxHeartbeats 400000 in
theorem scanSpace_any (a : Option Addr) (n cap p : Nat) (zs : List Int) (w : World) (hn : zs.length = n) (hm : n ≤ 1048576) (hp : p ≤ n) (hb : Bts w a zs) (hz : Byt zs) :
    Calls Try.prog 7 #[.slice a n cap, .int .i64 p] w fun e w' => e = .returned (.int .i64 (stopAt zs p)) ∧ Below w.heap.size w w' := by
  have hB0 : Below w.heap.size w (w.alloc (.cells #[.slice a n cap, .int .i64 p] 33)) := (Below.refl _ _).alloc (Nat.le_refl _) _
  have HC : Hid (Calls Try.prog 14 #[.pointer (some ⟨w.heap.size, 0, none⟩)] (w.alloc (.cells #[.slice a n cap, .int .i64 p] 33)) fun e w' => e = .returned (.tuple #[]) ∧ Below w.heap.size (w.alloc (.cells #[.slice a n cap, .int .i64 p] 33)) w' ∧ Scan w' w.heap.size (.slice a n cap) (stopAt zs p)) := by
    refine space_any w.heap.size a n cap p zs _ hn hm hp (hb.below hB0) ?_ hz ?_
    · intro b off e hne
      rcases hb with h | ⟨b', off', e', hc⟩
      · exact absurd h hne
      · rw [e] at e'
        obtain ⟨rfl, rfl, _⟩ := Addr.mk.inj (Option.some.inj e')
        exact World.block_lt_of_cell? w _ (hc 0 (List.length_pos_iff.2 hne))
    · unfold Scan
      rw [heap_alloc_new]
  have HB0 : Hid (Below w.heap.size w (w.alloc (.cells #[.slice a n cap, .int .i64 p] 33))) := hB0
  clear hB0 hb hz hn
  go_enter Try.func7, Try.ntmps7
  go_wp2_with (go_at_call 14; refine HC.out.mono ?_; rintro e w1 ⟨rfl, hB1, hS1⟩; have HS1 := hS1.pos; clear hS1)
  go_ret
  exact ⟨rfl, HB0.out.trans hB1⟩

theorem ret_true {b : Bool} (h : b = true) : Ending.returned (.bool b) = .returned (.bool true) := by rw [h]

set_option maxHeartbeats 1000000 in
theorem spaceStop_yes (a : Option Addr) (n cap p r : Nat) (zs : List Int) (w : World) (hn : zs.length = n) (hm : n ≤ 1048576) (hpr : p ≤ r) (hrn : r ≤ n) (hb : Bts w a zs)
    (hall : ∀ i, p ≤ i → i < r → spB (zs.getD i 0) = true) (hstop : r < n → spB (zs.getD r 0) = false) :
    Calls Try.prog 8 #[.slice a n cap, .int .i64 p, .int .i64 r] w fun e w' => e = .returned (.bool true) ∧ w = w' := by
  have d0 : decide (r < p) = false := decide_eq_false (by omega)
  rcases hb with rfl | ⟨b, off, rfl, hcell⟩
  · obtain rfl : n = 0 := by simpa using hn.symm
    obtain rfl : r = 0 := by omega
    obtain rfl : p = 0 := by omega
    clear hall hstop hn hm hpr hrn
    go_enter Try.func8, Try.ntmps8
    go_wp2
    refine wp_loop_rounds 1 ?_
    rw [rounds_succ]
    go_wp2
    go_ret
    exact ⟨rfl, rfl⟩
  · have HC : Hid (∀ i, i < n → w.cell? ⟨b, off + i, none⟩ = some (.int .u8 (zs.getD i 0))) := by rw [← hn]; exact hcell
    have HA : Hid (∀ i, p ≤ i → i < r → spB (zs.getD i 0) = true) := hall
    have HS : Hid (r < n → spB (zs.getD r 0) = false) := hstop
    clear hcell hall hstop hn
    go_enter Try.func8, Try.ntmps8
    go_wp2
    go_loop [7] (fun i => ∃ k : Nat, p ≤ k ∧ k ≤ r ∧ i = .int .i64 k) (fun i => r - (intOf i).toNat)
    case atStart => exact ⟨p, by omega, by omega, rfl⟩
    case round =>
      obtain ⟨k, hk1, hk2, rfl⟩ := hrel
      by_cases hkr : k < r
      · have hc := HC.out k (by omega)
        have hs := HA.out k hk1 hkr
        generalize zs.getD k 0 = c at hc hs
        go_wp2_with (go_at_call 15; refine (isSpace_any _ _).mono ?_; rintro e w' ⟨rfl, rfl⟩)
        go_round
        case rel => exact ⟨k + 1, by omega, by omega, by go_num⟩
        case measure => simp [intOf]; omega
      · by_cases hrl : r < n
        · have hc := HC.out r hrl
          have hs := HS.out hrl
          generalize zs.getD r 0 = c at hc hs
          go_wp2_with (go_at_call 15; refine (isSpace_any _ _).mono ?_; rintro e w' ⟨rfl, rfl⟩)
          go_ret
          exact ⟨rfl, rfl⟩
        · have d1 : decide (r < n) = false := decide_eq_false hrl
          go_wp2
          go_ret
          exact ⟨rfl, rfl⟩
end Go.Proofs.Qxb6619353a
