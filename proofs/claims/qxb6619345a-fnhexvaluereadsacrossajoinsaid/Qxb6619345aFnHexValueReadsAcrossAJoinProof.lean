/-
  THE PROOF OF 'Rows.FnHexValueReadsAcrossAJoinSaid'. The frame ('lifted', 'over') was written by the kit's program off the guide's print; the walks are mine.
-/
import Derived.Test.Qxb6619345aRows
import Derived.Test.Qxb6619345aBytes
import Derived.Test.Qxb6619345aJoinLaw
import Derived.Deep.DeepCutAuto
import Derived.WalkKit
import Derived.ProofKit
import Derived.OpenShut
import Derived.ShutString
import Derived.ChangeOld
import Derived.Below
namespace Go.Proofs.Qxb6619345a.fnHexValueReadsAcrossAJoin
open Go.ChangeShapes Go.WideShapes Go.ChangeAt Go.RowKit
open Go.ChangeMaps (open_string shut_string)
set_option linter.unusedVariables false


theorem bytes10_yes (a c : Option Addr) (n m cap cap' : Nat) (h : n + m ≤ 1048576) (w : World) :
    Calls Try.prog 10 #[.slice a n cap, .slice c m cap'] w fun e w' => e = .returned (.bool true) ∧ w = w' := by
  go_enter Try.func10, Try.ntmps10
  go_wp2
  go_ret
  exact ⟨rfl, rfl⟩
theorem bytes10_no (a c : Option Addr) (n m cap cap' : Nat) (h : 1048576 < n + m) (w : World) :
    Calls Try.prog 10 #[.slice a n cap, .slice c m cap'] w fun e w' => e = .returned (.bool false) ∧ w = w' := by
  by_cases h1 : 1048576 < n
  · go_enter Try.func10, Try.ntmps10
    go_wp2
    go_ret
    exact ⟨rfl, rfl⟩
  · by_cases h2 : 1048576 < m
    · go_enter Try.func10, Try.ntmps10
      go_wp2
      go_ret
      exact ⟨rfl, rfl⟩
    · go_enter Try.func10, Try.ntmps10
      go_wp2
      go_ret
      exact ⟨rfl, rfl⟩

theorem all_snoc {zs : List Int} {k : Nat} {c : Int} (hk : k < zs.length) (hc : zs.getD k 0 = c) (hh : ∀ x ∈ zs.take k, hxb x = true) (hd : hxb c = true) : ∀ x ∈ zs.take (k + 1), hxb x = true := by
  intro x hx
  rw [take_snoc_getD zs k hk, hc] at hx
  rcases List.mem_append.1 hx with h | h
  · exact hh x h
  · simp at h; subst h; exact hd
theorem all_no {zs : List Int} {k : Nat} {c : Int} (hk : k < zs.length) (hc : zs.getD k 0 = c) (hd : hxb c = false) : zs.all hxb = false := by
  rw [List.all_eq_false]
  have hm : zs.getD k 0 ∈ zs := by
    rw [List.getD_eq_getElem?_getD, List.getElem?_eq_getElem hk]
    exact List.getElem_mem _
  exact ⟨c, by rw [← hc]; exact hm, by simp [hd]⟩
theorem all_yes {zs : List Int} {k : Nat} (hk : zs.length ≤ k) (hh : ∀ x ∈ zs.take k, hxb x = true) : zs.all hxb = true := by
  rw [List.take_of_length_le hk] at hh
  exact List.all_eq_true.2 hh
theorem ret_bool {a b : Bool} (h : a = b) : Ending.returned (.bool a) = .returned (.bool b) := by rw [h]

set_option maxHeartbeats 400000 in
theorem allHex_any (a : Option Addr) (n cap : Nat) (zs : List Int) (w : World) (hn : zs.length = n) (hm : n ≤ 1048576) (hb : Bts w a zs) :
    Calls Try.prog 11 #[.slice a n cap] w fun e w' => e = .returned (.bool (zs.all hxb)) ∧ w = w' := by
  rcases hb with rfl | ⟨b, off, rfl, hcell⟩
  · obtain rfl : n = 0 := by simpa using hn.symm
    clear hn hm
    go_enter Try.func11, Try.ntmps11
    go_wp2
    refine wp_loop_rounds 1 ?_
    rw [rounds_succ]
    go_wp2
    go_ret
    exact ⟨ret_bool (by simp), rfl⟩
  · have HC : Hid (∀ i, i < n → w.cell? ⟨b, off + i, none⟩ = some (.int .u8 (zs.getD i 0))) := by rw [← hn]; exact hcell
    have HN : Hid (zs.length = n) := hn
    clear hcell hn
    go_enter Try.func11, Try.ntmps11
    go_wp2
    go_loop [3] (fun i => ∃ k : Nat, k ≤ n ∧ i = .int .i64 k ∧ Hid (∀ x ∈ zs.take k, hxb x = true)) (fun i => n - (intOf i).toNat)
    case atStart => exact ⟨0, by omega, rfl, show ∀ x ∈ zs.take 0, _ from by simp⟩
    case round =>
      obtain ⟨k, hk, rfl, HH⟩ := hrel
      by_cases hlt : k < n
      · have hc := HC.out k hlt
        generalize hcd : zs.getD k 0 = c at hc
        have HD : Hid (zs.getD k 0 = c) := hcd
        clear hcd
        cases hd : hxb c with
        | true =>
          have A : Hid (_) := all_snoc (by rw [HN.out]; exact hlt) HD.out HH.out hd
          go_wp2_with (go_at_call 9; refine (hexDigit_any _ _).mono ?_; rintro e w' ⟨rfl, rfl⟩)
          go_round
          case rel => exact ⟨k + 1, by omega, by go_num, A.out⟩
          case measure => simp [intOf]; omega
        | false =>
          have A : Hid (_) := all_no (by rw [HN.out]; exact hlt) HD.out hd
          go_wp2_with (go_at_call 9; refine (hexDigit_any _ _).mono ?_; rintro e w' ⟨rfl, rfl⟩)
          go_ret
          exact ⟨ret_bool A.out.symm, rfl⟩
      · have A : Hid (_) := all_yes (zs := zs) (k := k) (by rw [HN.out]; omega) HH.out
        go_wp2
        go_ret
        exact ⟨ret_bool A.out.symm, rfl⟩

/-- A row of bytes that a slice leads to: nil: no bytes; else they lie there, a cell a byte. -/
def Held (w : World) (ao : Option Addr) (cap : Nat) (zs : List Int) : Prop :=
  (ao = none → zs = [] ∧ cap = 0) ∧ ∀ ad, ao = some ad → ∀ j u, (bytesV zs)[j]? = some u → w.cell? (ad.add j) = some u

theorem bytesV_get {zs : List Int} {i : Nat} (hi : i < zs.length) : (bytesV zs)[i]? = some (.int .u8 (zs.getD i 0)) := by
  simp [bytesV, hi]
theorem bytesV_append (A C : List Int) : bytesV (A ++ C) = bytesV A ++ bytesV C := by simp [bytesV]
theorem Byt_append {A C : List Int} (h : Byt A) (k : Byt C) : Byt (A ++ C) := by
  intro i
  rw [List.getD_eq_getElem?_getD, List.getElem?_append]
  split
  · have := h i; rwa [List.getD_eq_getElem?_getD] at this
  · have := k (i - A.length); rwa [List.getD_eq_getElem?_getD] at this
theorem Held.below {w w' : World} {ao : Option Addr} {cap : Nat} {zs : List Int} (h : Held w ao cap zs) (hb : Below w.heap.size w w') : Held w' ao cap zs := by
  refine ⟨h.1, fun ad had j u hu => ?_⟩
  have := h.2 ad had j u hu
  rw [← this]
  exact hb.cell (World.block_lt_of_cell? w _ this)
theorem Held.bts {w : World} {ao : Option Addr} {cap : Nat} {zs : List Int} (h : Held w ao cap zs) : Bts w ao zs := by
  by_cases hz : zs = []
  · exact .inl hz
  · have hp : 0 < zs.length := List.length_pos_iff.2 hz
    cases ao with
    | none => exact absurd (h.1 rfl).1 hz
    | some ad =>
      obtain ⟨b, off, spot⟩ := ad
      have h0 := h.2 _ rfl 0 _ (bytesV_get hp)
      have hspot : spot = none := by simpa [Addr.add] using World.cell?_spot h0
      subst hspot
      refine .inr ⟨b, off, rfl, fun i hi => ?_⟩
      have := h.2 _ rfl i _ (bytesV_get hi)
      rwa [add_plain] at this
theorem Held_of_block {w : World} {g cap : Nat} {ys : List Int} (h : w.heap[g]? = some (.cells (bytesV ys).toArray 5 (0, 0))) : Held w (some ⟨g, 0, none⟩) cap ys := by
  unfold Held
  refine ⟨(fun e => by cases e), ?_⟩
  intro ad had j u hu
  obtain rfl := Option.some.inj had
  obtain ⟨hj, rfl⟩ := bytesV_at hu
  rw [add_plain, Nat.zero_add]
  exact cell_of_bytes h hj

set_option maxRecDepth 100000 in
set_option maxHeartbeats 400000 in
theorem walk4 (a0 : Option Addr) (len0 cap0 : Nat) (A : List Int) (a1 : Option Addr) (len1 cap1 : Nat) (C : List Int) (w : World) (hl : len0 + len1 ≤ 1048576) (hA : A.length = len0) (hC : C.length = len1) (h0 : Held w a0 cap0 A) (h1 : Held w a1 cap1 C) (zA : Byt A) (zC : Byt C) :
    Calls Try.prog 4 #[.slice a0 len0 cap0, .slice a1 len1 cap1] w fun e w' => e = .returned (.bool true) ∧ Below w.heap.size w w' := by
  have d0 : decide (1048576 < (len0 : Int)) = false := decide_eq_false (by omega)
  have d1 : decide (1048576 - (len0 : Int) < (len1 : Int)) = false := decide_eq_false (by omega)
  have HA : Hid (A.length = len0) := hA
  have HC : Hid (C.length = len1) := hC
  have H0 : Hid (Held w a0 cap0 A) := h0
  have H1 : Hid (Held w a1 cap1 C) := h1
  have ZA : Hid (Byt A) := zA
  have ZC : Hid (Byt C) := zC
  clear hA hC h0 h1 zA zC
  go_enter Try.func4, Try.ntmps4
  go_upto_if 30 with (go_at_call 10; refine (bytes10_yes _ _ _ _ _ _ hl _).mono ?_; rintro e w' ⟨rfl, rfl⟩)
  go_cut [0] from 16 (fun s0 wr => ∃ ao cap, s0 = .slice ao len0 cap ∧ Below w.heap.size w wr ∧ Hid (Held wr ao cap A))
  case first =>
    cases a0 with
    | none =>
      go_wp2
      go_meet
      case rel => exact ⟨none, cap0, rfl, Below.refl _ _, H0.out⟩
    | some x =>
      have HS : Hid (∀ j v, (bytesV A)[j]? = some v → (w.alloc (.cells (madeCells #[.int .u8 0] len0) 5)).cell? (x.add j) = some v) := by
        exact ((H0.out).below ((Below.refl w.heap.size w).alloc (Nat.le_refl _) _)).2 x rfl
      have hmk := run_make_row' (P := Try.prog) 22 5 (.int .u8 0) 1 Try.underlying22 Try.info5 rfl .i64 .i64 len0 (by omega) (by omega)
      go_wp2_with (refine wpList_copy_splice rfl (.tmp 34) (.tmp 35) 22 22 rfl 5 Try.underlying22 Try.size5 _ _ _ _ _ _ rfl rfl w.heap.size 0 (zeros len0) 5 (made_at w len0) (bytesV A) (by rw [bytesV_length, HA.out]; simp) (fun _ => ⟨rfl, x, rfl, HS.out⟩) (by rw [bytesV_length, HA.out, zeros_length]; omega) (bytesV_one A) w.heap.size w ((Below.refl _ _).alloc (Nat.le_refl _) _) (Nat.le_refl _) ?_; intro w2 HG2 hB2)
      have HG := HG2.out
      rw [splice_whole len0 A HA.out] at HG
      go_meet
      case rel => exact ⟨some ⟨w.heap.size, 0, none⟩, len0, rfl, hB2, Held_of_block HG⟩
  case rest =>
    obtain ⟨ao, cap, rfl, hB1, HA1⟩ := hcut
    obtain ⟨w1, hw1⟩ : ∃ w1, w1 = wc := ⟨_, rfl⟩
    subst hw1
    have HB1 : Hid (Below w.heap.size w w1) := hB1
    have H1w : Hid (Held w1 a1 cap1 C) := H1.out.below hB1
    clear hB1 H0 H1 d0 d1
    go_upto_if 39 with fail
    go_cut [1] from 16 (fun s1 wr => ∃ ao1 cap1, s1 = .slice ao1 len1 cap1 ∧ Below w1.heap.size w1 wr ∧ Hid (Held wr ao1 cap1 C))
    case first =>
      cases a1 with
      | none =>
        go_wp2
        go_meet
        case rel => exact ⟨none, cap1, rfl, Below.refl _ _, H1w.out⟩
      | some x =>
        have HS : Hid (∀ j v, (bytesV C)[j]? = some v → (w1.alloc (.cells (madeCells #[.int .u8 0] len1) 5)).cell? (x.add j) = some v) := by
          exact ((H1w.out).below ((Below.refl w1.heap.size w1).alloc (Nat.le_refl _) _)).2 x rfl
        have hmk := run_make_row' (P := Try.prog) 22 5 (.int .u8 0) 1 Try.underlying22 Try.info5 rfl .i64 .i64 len1 (by omega) (by omega)
        go_wp2_with (refine wpList_copy_splice rfl (.tmp 43) (.tmp 44) 22 22 rfl 5 Try.underlying22 Try.size5 _ _ _ _ _ _ rfl rfl w1.heap.size 0 (zeros len1) 5 (made_at w1 len1) (bytesV C) (by rw [bytesV_length, HC.out]; simp) (fun _ => ⟨rfl, x, rfl, HS.out⟩) (by rw [bytesV_length, HC.out, zeros_length]; omega) (bytesV_one C) w1.heap.size w1 ((Below.refl _ _).alloc (Nat.le_refl _) _) (Nat.le_refl _) ?_; intro w2 HG2 hB2)
        have HG := HG2.out
        rw [splice_whole len1 C HC.out] at HG
        go_meet
        case rel => exact ⟨some ⟨w1.heap.size, 0, none⟩, len1, rfl, hB2, Held_of_block HG⟩
    case rest =>
      obtain ⟨ao1, capc, rfl, hB2, HC1⟩ := hcut
      obtain ⟨w2, hw2⟩ : ∃ w2, w2 = wc := ⟨_, rfl⟩
      subst hw2
      have HB2 : Hid (Below w.heap.size w w2) := HB1.out.trans (hB2.mono HB1.out.size)
      have HA2 : Hid (Held w2 ao cap A) := HA1.out.below hB2
      clear hB2 HB1 HA1 H1w
      obtain ⟨i0, hi, hz0, hz1, hz2⟩ := info_parts Try.info5
      have hi' : Hid (Try.prog.info? 5 = some i0 ∧ i0.zero = some (.int .u8 0) ∧ i0.size = 1 ∧ i0.bytes = 1) := ⟨hi, hz0, hz1, hz2⟩
      clear hi hz0 hz1 hz2
      have hnA : Hid (ao = none → len0 = 0 ∧ cap = 0) := fun e => ⟨by have := (HA2.out.1 e).1; have hA := HA.out; rw [this] at hA; simpa using hA.symm, (HA2.out.1 e).2⟩
      have hnC : Hid (ao1 = none → len1 = 0 ∧ capc = 0) := fun e => ⟨by have := (HC1.out.1 e).1; have hC := HC.out; rw [this] at hC; simpa using hC.symm, (HC1.out.1 e).2⟩
      go_wp2_with (first
        | (at_make; refine wpList_make_own _ rfl (.const (.int .i64 0)) (.tmp 51) 22 rfl w2.heap.size 5 i0 (.int .u8 0) 1 Try.underlying22 hi'.out.1 hi'.out.2.1 hi'.out.2.2.1 .i64 .i64 _ (len0 + len1) rfl rfl (by omega) (by rw [hi'.out.2.2.2]; omega) (by unfold maxLen; omega) (Nat.le_refl _) ?_; intro w3 hown3 hgrow3; have HB3 : Hid (Below w2.heap.size w2 w3) := (Below.refl _ _).grown hgrow3 (Nat.le_refl _) (by simp); clear hgrow3)
        | (at_builtin; refine wpList_append_fits_any _ rfl (.tmp 53) (.tmp 54) 22 rfl w2.heap.size 5 i0 1 Try.underlying22 hi'.out.1 hi'.out.2.2.1 w2.heap.size 0 (len0 + len1) [] rfl hown3 ao len0 cap (bytesV A) rfl (by rw [bytesV_length, HA.out]; omega) hnA.out (HA2.out.below HB3.out).2 (bytesV_one A) (by omega) ?_; intro w4 hown4 hgrow4; simp only [Nat.zero_add, List.nil_append] at hown4; have HB4 : Hid (Below w2.heap.size w2 w4) := HB3.out.grown hgrow4 HB3.out.size (by simp); clear hgrow4 hown3)
        | (at_builtin; refine wpList_append_fits_any _ rfl (.tmp 56) (.tmp 57) 22 rfl w2.heap.size 5 i0 1 Try.underlying22 hi'.out.1 hi'.out.2.2.1 w2.heap.size len0 (len0 + len1) (bytesV A) rfl hown4 ao1 len1 capc (bytesV C) rfl (by rw [bytesV_length, HC.out]; omega) hnC.out (HC1.out.below HB4.out).2 (bytesV_one C) (by omega) ?_; intro w5 hown5 hgrow5; have HB5 : Hid (Below w2.heap.size w2 w5) := HB4.out.grown hgrow5 HB4.out.size (by simp); clear hgrow5 hown4))
      have HJ : Hid (Held w5 (some ⟨w2.heap.size, 0, none⟩) (len0 + len1) (A ++ C)) := by
        show Held _ _ _ _
        unfold Held
        refine ⟨(fun e => by cases e), ?_⟩
        intro ad had j u hu
        obtain rfl := Option.some.inj had
        exact hown5.cells rfl j u (by rw [← bytesV_append]; exact hu)
      have HB : Hid (Below w.heap.size w w5) := HB2.out.trans (HB5.out.mono HB2.out.size)
      have HA5 : Hid (Bts w5 ao A) := (HA2.out.below HB5.out).bts
      have HC5 : Hid (Bts w5 ao1 C) := (HC1.out.below HB5.out).bts
      have HJ5 : Hid (Bts w5 (some ⟨w2.heap.size, 0, none⟩) (A ++ C)) := HJ.out.bts
      clear hown5 HJ HB3 HB4 HB5 HB2 HA2 HC1 hi' hnA hnC
      refine (ZZhexValue_any _ len0 _ A w5 HA.out (by omega) HA5.out ZA.out).mono ?_
      rintro e w' ⟨rfl, rfl⟩
      go_wp2_with fail
      refine (ZZhexValue_any _ len1 _ C w5 HC.out (by omega) HC5.out ZC.out).mono ?_
      rintro e w' ⟨rfl, rfl⟩
      go_wp2_with fail
      refine (ZZhexValue_any _ (len0 + len1) _ (A ++ C) w5 (by rw [List.length_append, HA.out, HC.out]) (by omega) HJ5.out (Byt_append ZA.out ZC.out)).mono ?_
      rintro e w' ⟨rfl, rfl⟩
      go_wp2_with fail
      refine (allHex_any _ len0 _ A w5 HA.out (by omega) HA5.out).mono ?_
      rintro e w' ⟨rfl, rfl⟩
      go_wp2_with fail
      refine (allHex_any _ len1 _ C w5 HC.out (by omega) HC5.out).mono ?_
      rintro e w' ⟨rfl, rfl⟩
      cases hbA : A.all hxb with
      | true =>
        have eA : hexN A = len0 := by rw [(all_iff A).1 hbA]; exact HA.out
        have eJ : hexN (A ++ C) = len0 + hexN C := by rw [join_n A C hbA, HA.out]
        have JR : Hid (hexR (A ++ C) = bits .or .i32 (shlR (hexR A) (hexN C)) (hexR C)) := join_r A C hbA
        have hsh := fun w => shlR_run (P := Try.prog) (hexR A) (hexN C) w
        rw [eA, eJ]
        clear eA eJ hbA
        generalize hexR (A ++ C) = rJ at JR ⊢
        generalize hexR A = rA at JR hsh ⊢
        generalize hexR C = rC at JR ⊢
        cases hbC : C.all hxb with
        | true =>
          have eC : hexN C = len1 := by rw [(all_iff C).1 hbC]; exact HC.out
          rw [eC] at JR hsh ⊢
          clear eC hbC
          go_wp2
          go_ret
          exact ⟨ret_true (by rw [beq_iff_eq]; exact JR.out), HB.out⟩
        | false =>
          have eC : hexN C < len1 := by have := all_false C hbC; rw [HC.out] at this; exact this
          clear hbC
          generalize hexN C = nC at eC JR hsh ⊢
          go_wp2
          go_ret
          exact ⟨ret_true (by rw [beq_iff_eq]; exact JR.out), HB.out⟩
      | false =>
        have eA : hexN A < len0 := by have := all_false A hbA; rw [HA.out] at this; exact this
        have eJ : hexN (A ++ C) = hexN A := join_n_not A C hbA
        have eR : hexR (A ++ C) = hexR A := join_r_not A C hbA
        rw [eJ, eR]
        generalize hexR A = rA
        generalize hexR C = rC
        generalize hexN C = nC
        clear eJ eR hbA
        generalize hexN A = nA at eA
        generalize C.all hxb = bC
        go_wp2
        go_ret
        exact ⟨rfl, HB.out⟩

theorem walk4_long (a0 : Option Addr) (len0 cap0 : Nat) (a1 : Option Addr) (len1 cap1 : Nat) (h : 1048576 < len0 + len1) (w : World) :
    Calls Try.prog 4 #[.slice a0 len0 cap0, .slice a1 len1 cap1] w fun e w' => e = .returned (.bool true) ∧ Below w.heap.size w w' := by
  go_enter Try.func4, Try.ntmps4
  go_wp2_with (go_at_call 10; refine (bytes10_no _ _ _ _ _ _ h _).mono ?_; rintro e w' ⟨rfl, rfl⟩)
  go_ret
  exact ⟨rfl, Below.refl _ _⟩


theorem own : ownKnob Try.prog.godebug = none := by kernel_rfl
theorem laidOut : laidOutB Try.prog = true := by kernel_rfl

/-- WHAT THE WALK IS TOLD OF A SLICE OF INTEGERS THAT CAME IN: it is nil; or it leads to a row of 'cap' cells, the numbers 'zs' (the first 'len' are its elements, the rest its spare room), each fitting its kind. -/
def IsRow (k : IntKind) (w : World) (a : Option Addr) (len cap : Nat) (zs : List Int) : Prop :=
  (a = none ∧ len = 0 ∧ cap = 0 ∧ zs = []) ∨
  ∃ x, a = some x ∧ len ≤ cap ∧ cap ≤ maxLen ∧ zs.length = cap ∧ (∀ i, i < zs.length → w.cell? (x.add i) = some (.int k (zs.getD i 0))) ∧ ∀ n ∈ zs, (Lit.int k n).wf = true

theorem held_of_row {w : World} {a : Option Addr} {len cap : Nat} {zs : List Int} (h : IsRow .u8 w a len cap zs) : ∃ A : List Int, Held w a cap A ∧ A.length = len ∧ Byt A := by
  rcases h with ⟨rfl, rfl, rfl, rfl⟩ | ⟨x, rfl, hlc, hcm, hzl, hcell, hwf⟩
  · exact ⟨[], ⟨fun _ => ⟨rfl, rfl⟩, fun ad had => by cases had⟩, rfl, fun i => by simp⟩
  · obtain ⟨h1, h2, h3, h4⟩ := row_view hlc hzl hcell hwf
    refine ⟨zs.take len, ⟨(fun e => by cases e), ?_⟩, h1, h3⟩
    intro ad had j u hu
    obtain rfl := Option.some.inj had
    obtain ⟨hj, rfl⟩ := bytesV_at hu
    exact h2 j hj

/-! ### STEP 1: THE WALK: the Go text returns true, AND WRITES NOTHING THAT WAS THERE: 'Below w.heap.size w w'' (Derived/Below.lean: '.refl', '.alloc', '.drew', '.setCell' at a new block, '.trans'). Open each 'IsRow' by 'rcases' AHEAD of 'go_enter'; part every test ahead of the walk. -/
theorem walk (a0 : Option Addr) (len0 cap0 : Nat) (z0 : List Int) (a1 : Option Addr) (len1 cap1 : Nat) (z1 : List Int) (w : World) (w0 : IsRow .u8 w a0 len0 cap0 z0) (w1 : IsRow .u8 w a1 len1 cap1 z1) :
    Calls Try.prog 4 #[.slice a0 len0 cap0, .slice a1 len1 cap1] w fun e w' => e = .returned (.bool true) ∧ Below w.heap.size w w' := by
  obtain ⟨A, hA, eA, zA⟩ := held_of_row w0
  obtain ⟨C, hC, eC, zC⟩ := held_of_row w1
  by_cases hl : len0 + len1 ≤ 1048576
  · exact walk4 a0 len0 cap0 A a1 len1 cap1 C w hl eA eC hA hC zA zC
  · exact walk4_long a0 len0 cap0 a1 len1 cap1 (by omega) w

/-! ### THE ROW's STEP: WRITTEN OUT: LEAVE IT -/
set_option maxRecDepth 100000 in
theorem lifted (os : Os) (started : os.Started) (H : Type) (enc : TypeId × Value → H) :
    ReturnsInHanded {} Try.checked os 4 .any (Rows.fnHexValueReadsAcrossAJoinSpec.pre6 enc Try.prog Try.f4 Rows.fnHexValueReadsAcrossAJoinRow.domain false) (Rows.fnHexValueReadsAcrossAJoinSpec.post enc Try.prog Try.f4 false true false false) := by
  refine returnsInHanded_of_change (C := Try.checked) own started (by kernel_rfl) Try.func4
    (ChangeSpec.witness6 (enc := enc) (C := Try.checked) false ⟨#[], #[.slice none 0 0, .slice none 0 0], []⟩ 8 (by kernel_rfl) (by kernel_rfl) (by kernel_rfl) (by kernel_rfl)) ?_
  intro W base args ds gs before hval0 hW hcnd _
  have hval : ∀ (j : Nat) t v, Try.f4.params[j]? = some t → args[j]? = some v → Value.okWide Try.prog W .any base t v := hval0
  have hW' := hW
  obtain ⟨p, q, hA0, hV, rfl, hfz, hnd⟩ := hW
  have hA : DataW.TrodAll enc Try.prog W 0 (fun _ => true) true Try.f4.params.toList args.toList ds p := hA0
  rw [Try.params4] at hA hval
  obtain ⟨v0, vs0, d0, ds0, p0, q0, hargs, rfl, rfl, h0, r0⟩ := trodAll_cons hA
  obtain ⟨v1, vs1, d1, ds1, p1, q1, rfl, rfl, rfl, h1, r1⟩ := trodAll_cons r0
  obtain ⟨rfl, rfl, rfl⟩ := trodAll_nil r1
  obtain rfl : args = #[v0, v1] := by cases args; simp_all
  obtain ⟨rfl, rfl⟩ := trodVars_none hV
  obtain ⟨a0, len0, cap0, rfl⟩ := okWide_slice Try.underlying22 (hval 0 22 v0 rfl rfl)
  have k0 := h0
  have lt0 : ∀ x ∈ p0, x.block < W.heap.size := by obtain ⟨m, hm⟩ := k0; exact DataW.trod_lt m _ _ _ hm
  obtain ⟨z0, w0⟩ : ∃ zs, IsRow .u8 W a0 len0 cap0 zs := by
    obtain ⟨fuel, hf⟩ := h0
    rcases open_ints Try.underlying22 Try.underlying5 (by kernel_rfl) hf with ⟨hcs, _⟩ | ⟨x, l, c, zs, hcs, _, hl, hm, hz, _, hcell, hwz⟩
    · simp [Value.cells] at hcs
      obtain ⟨rfl, rfl, rfl⟩ := hcs
      exact ⟨[], .inl ⟨rfl, rfl, rfl, rfl⟩⟩
    · simp [Value.cells] at hcs
      obtain ⟨rfl, rfl, rfl⟩ := hcs
      exact ⟨zs, .inr ⟨_, rfl, hl, hm, by simpa using hz, hcell, hwz⟩⟩
  obtain ⟨a1, len1, cap1, rfl⟩ := okWide_slice Try.underlying22 (hval 1 22 v1 rfl rfl)
  have k1 := h1
  have lt1 : ∀ x ∈ p1, x.block < W.heap.size := by obtain ⟨m, hm⟩ := k1; exact DataW.trod_lt m _ _ _ hm
  obtain ⟨z1, w1⟩ : ∃ zs, IsRow .u8 W a1 len1 cap1 zs := by
    obtain ⟨fuel, hf⟩ := h1
    rcases open_ints Try.underlying22 Try.underlying5 (by kernel_rfl) hf with ⟨hcs, _⟩ | ⟨x, l, c, zs, hcs, _, hl, hm, hz, _, hcell, hwz⟩
    · simp [Value.cells] at hcs
      obtain ⟨rfl, rfl, rfl⟩ := hcs
      exact ⟨[], .inl ⟨rfl, rfl, rfl, rfl⟩⟩
    · simp [Value.cells] at hcs
      obtain ⟨rfl, rfl, rfl⟩ := hcs
      exact ⟨zs, .inr ⟨_, rfl, hl, hm, by simpa using hz, hcell, hwz⟩⟩
  clear hA0 hval0
  refine (walk a0 len0 cap0 z0 a1 len1 cap1 z1 W w0 w1).mono fun e W' ⟨he, bel⟩ => ?_
  subst he
  exact ⟨_, rfl, _, _, _, [], _, [], hW', trodAll_mk1 (shut_bool Try.underlying4 _), (trodAll_cons_mk (Below.trod laidOut (by kernel_rfl) (of_decide_eq_true (by kernel_rfl)) k0 bel lt0) (trodAll_cons_mk (Below.trod laidOut (by kernel_rfl) (of_decide_eq_true (by kernel_rfl)) k1 bel lt1) trodAll_mk0)), rfl, bel.frame _, fun h => by cases h⟩

theorem over : Rows.fnHexValueReadsAcrossAJoinRow.holds Try.pinned (OpenSpec.ofChange Rows.fnHexValueReadsAcrossAJoinSpec) :=
  OpenClaim.holds_of_wide 4 Try.f4 rfl rfl rfl rfl rfl rfl rfl ⟨rfl, rfl, rfl, rfl, rfl⟩ rfl rfl rfl rfl rfl (by kernel_rfl) Try.func4 (by kernel_rfl)
    (of_decide_eq_true (by kernel_rfl)) (by unfold Func.isWrapper; first | (rw [if_pos (by decide +kernel)]; kernel_rfl) | (rw [if_neg (by decide +kernel)]; exact ⟨rfl, rfl⟩))
    (fun os started H enc _ => lifted os started H enc)

/-- ████ THE STATEMENT ████ -/
theorem proved : Rows.FnHexValueReadsAcrossAJoinSaid := over
#print axioms proved
end Go.Proofs.Qxb6619345a.fnHexValueReadsAcrossAJoin
