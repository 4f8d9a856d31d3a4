/-
  THE PROOF OF 'Rows.FnSpaceStopsAtFirstNonSpaceAtAnyCutSaid'. The frame ('lifted', 'over') was written by the kit's program off the guide's print; the walks are mine.
-/
import Derived.Test.Qxb6619353aRows
import Derived.Test.Qxb6619353aBytes
import Derived.Deep.DeepCutAuto
import Derived.WalkKit
import Derived.ProofKit
import Derived.OpenShut
import Derived.ShutString
import Derived.ChangeOld
import Derived.Below
namespace Go.Proofs.Qxb6619353a.fnSpaceStopsAtFirstNonSpaceAtAnyCut
open Go.ChangeShapes Go.WideShapes Go.ChangeAt Go.RowKit
open Go.ChangeMaps (open_string shut_string)
set_option linter.unusedVariables false

theorem bytes6_yes (a c : Option Addr) (n m cap cap' : Nat) (p : Int) (h : n + m ≤ 1048576) (w : World) :
    Calls Try.prog 6 #[.slice a n cap, .slice c m cap', .int .i64 p] w fun e w' => e = .returned (.bool true) ∧ w = w' := by
  go_enter Try.func6, Try.ntmps6
  go_wp2
  go_ret
  exact ⟨rfl, rfl⟩
theorem bytes6_no (a c : Option Addr) (n m cap cap' : Nat) (p : Int) (h : 1048576 < n + m) (w : World) :
    Calls Try.prog 6 #[.slice a n cap, .slice c m cap', .int .i64 p] w fun e w' => e = .returned (.bool false) ∧ w = w' := by
  by_cases h1 : 1048576 < n
  · go_enter Try.func6, Try.ntmps6
    go_wp2
    go_ret
    exact ⟨rfl, rfl⟩
  · by_cases h2 : 1048576 < m
    · go_enter Try.func6, Try.ntmps6
      go_wp2
      go_ret
      exact ⟨rfl, rfl⟩
    · go_enter Try.func6, Try.ntmps6
      go_wp2
      go_ret
      exact ⟨rfl, rfl⟩

set_option maxRecDepth 100000 in
set_option maxHeartbeats 2000000 in
theorem walk3 (a0 : Option Addr) (len0 cap0 : Nat) (A : List Int) (a1 : Option Addr) (len1 cap1 : Nat) (C : List Int) (p : Nat) (w : World) (hl : len0 + len1 ≤ 1048576) (hp : p ≤ len0) (hA : A.length = len0) (hC : C.length = len1)
    (h0 : Held w a0 cap0 A) (h1 : Held w a1 cap1 C) (zA : Byt A) (zC : Byt C) :
    Calls Try.prog 3 #[.slice a0 len0 cap0, .slice a1 len1 cap1, .int .i64 p] w fun e w' => e = .returned (.bool true) ∧ Below w.heap.size w w' := by
  have HA : Hid (A.length = len0) := hA
  have HC : Hid (C.length = len1) := hC
  have H0 : Hid (Held w a0 cap0 A) := h0
  have H1 : Hid (Held w a1 cap1 C) := h1
  have ZA : Hid (Byt A) := zA
  have ZC : Hid (Byt C) := zC
  have d0 : decide ((p : Int) < 0) = false := decide_eq_false (by omega)
  have d1 : decide (len0 < p) = false := decide_eq_false (by omega)
  clear hA hC h0 h1 zA zC
  go_enter Try.func3, Try.ntmps3
  go_upto_if 38 with (go_at_call 6; refine (bytes6_yes _ _ _ _ _ _ _ hl _).mono ?_; rintro e w' ⟨rfl, rfl⟩)
  go_cut [0] from 15 (fun s0 wr => ∃ ao cap, s0 = .slice ao len0 cap ∧ Below w.heap.size w wr ∧ Hid (Held wr ao cap A))
  case first =>
    cases a0 with
    | none =>
      go_wp2
      go_meet
      case rel => exact ⟨none, cap0, rfl, Below.refl _ _, H0.out⟩
    | some x =>
      have HS : Hid (∀ j v, (bytesV A)[j]? = some v → (w.alloc (.cells (madeCells #[.int .u8 0] len0) 5)).cell? (x.add j) = some v) := by
        exact ((H0.out).below ((Below.refl w.heap.size w).alloc (Nat.le_refl _) _)).2 x rfl
      have hmk := run_make_row' (P := Try.prog) 22 5 (.int .u8 0) 1 Try.underlying22 Try.info5 rfl .i64 .i64 len0 (by omega) (by omega)
      go_wp2_with (refine wpList_copy_splice rfl (.tmp 42) (.tmp 43) 22 22 rfl 5 Try.underlying22 Try.size5 _ _ _ _ _ _ rfl rfl w.heap.size 0 (zeros len0) 5 (made_at w len0) (bytesV A) (by rw [bytesV_length, HA.out]; simp) (fun _ => ⟨rfl, x, rfl, HS.out⟩) (by rw [bytesV_length, HA.out, zeros_length]; omega) (bytesV_one A) w.heap.size w ((Below.refl _ _).alloc (Nat.le_refl _) _) (Nat.le_refl _) ?_; intro w2 HG2 hB2)
      have HG := HG2.out
      rw [splice_whole len0 A HA.out] at HG
      go_meet
      case rel => exact ⟨some ⟨w.heap.size, 0, none⟩, len0, rfl, hB2, Held_of_block HG⟩
  case rest =>
    obtain ⟨ao, cap, rfl, hB1, HA1⟩ := hcut
    obtain ⟨w1, hw1⟩ : ∃ w1, w1 = wc := ⟨_, rfl⟩
    subst hw1
    have HB1 : Hid (Below w.heap.size w w1) := hB1
    have H1w : Hid (Held w1 a1 cap1 C) := H1.out.below hB1
    clear hB1 H0 H1 d0 d1
    go_upto_if 47 with fail
    go_cut [1] from 15 (fun s1 wr => ∃ ao1 cap1, s1 = .slice ao1 len1 cap1 ∧ Below w1.heap.size w1 wr ∧ Hid (Held wr ao1 cap1 C))
    case first =>
      cases a1 with
      | none =>
        go_wp2
        go_meet
        case rel => exact ⟨none, cap1, rfl, Below.refl _ _, H1w.out⟩
      | some x =>
        have HS : Hid (∀ j v, (bytesV C)[j]? = some v → (w1.alloc (.cells (madeCells #[.int .u8 0] len1) 5)).cell? (x.add j) = some v) := by
          exact ((H1w.out).below ((Below.refl w1.heap.size w1).alloc (Nat.le_refl _) _)).2 x rfl
        have hmk := run_make_row' (P := Try.prog) 22 5 (.int .u8 0) 1 Try.underlying22 Try.info5 rfl .i64 .i64 len1 (by omega) (by omega)
        go_wp2_with (refine wpList_copy_splice rfl (.tmp 51) (.tmp 52) 22 22 rfl 5 Try.underlying22 Try.size5 _ _ _ _ _ _ rfl rfl w1.heap.size 0 (zeros len1) 5 (made_at w1 len1) (bytesV C) (by rw [bytesV_length, HC.out]; simp) (fun _ => ⟨rfl, x, rfl, HS.out⟩) (by rw [bytesV_length, HC.out, zeros_length]; omega) (bytesV_one C) w1.heap.size w1 ((Below.refl _ _).alloc (Nat.le_refl _) _) (Nat.le_refl _) ?_; intro w2 HG2 hB2)
        have HG := HG2.out
        rw [splice_whole len1 C HC.out] at HG
        go_meet
        case rel => exact ⟨some ⟨w1.heap.size, 0, none⟩, len1, rfl, hB2, Held_of_block HG⟩
    case rest =>
      obtain ⟨ao1, capc, rfl, hB2, HC1⟩ := hcut
      obtain ⟨w2, hw2⟩ : ∃ w2, w2 = wc := ⟨_, rfl⟩
      subst hw2
      have HB2 : Hid (Below w.heap.size w w2) := HB1.out.trans (hB2.mono HB1.out.size)
      have HA2 : Hid (Bts w2 ao A) := (HA1.out.below hB2).bts
      have HC2 : Hid (Bts w2 ao1 C) := HC1.out.bts
      clear hB2 HB1 HA1 H1w HC1
      have hmk := run_make_row' (P := Try.prog) 22 5 (.int .u8 0) 1 Try.underlying22 Try.info5 rfl .i64 .i64 (len0 + len1) (by omega) (by omega)
      rw [show (((len0 + len1 : Nat)) : Int) = (len0 : Int) + (len1 : Int) from by omega] at hmk
      go_wp2
      clear hmk
      have HF : Hid ((w2.alloc (.cells (madeCells #[.int .u8 0] (len0 + len1)) 5)).rowIs w2.heap.size 5 (len0 + len1) (fillF (A ++ C) 0)) := fill_made w2 (len0 + len1) (A ++ C)
      go_loopw [10] (fun i wr => ∃ k : Nat, k ≤ len0 ∧ i = .int .i64 k ∧ Below w2.heap.size w2 wr ∧ Hid (wr.rowIs w2.heap.size 5 (len0 + len1) (fillF (A ++ C) k))) (fun i _ => len0 - (intOf i).toNat)
      case atStart => exact ⟨0, by omega, rfl, (Below.refl _ _).alloc (Nat.le_refl _) _, HF⟩
      case round =>
        obtain ⟨k, hk, rfl, hBr, HFr⟩ := hrel
        have HBr : Hid (Below w2.heap.size w2 wr) := hBr
        clear hBr HF
        by_cases hkl : k < len0
        · obtain ⟨b, off, rfl, hcs⟩ := HA2.out.at (k := k) (by rw [HA.out]; exact hkl)
          obtain ⟨cz, hbw⟩ := hcs k (by rw [HA.out]; exact hkl)
          clear hcs
          rw [← HBr.out.cell (p := ⟨b, off + k, none⟩) hbw] at cz
          have HK : Hid ((A ++ C).getD k 0 = A.getD k 0) := getD_left A C k (by rw [HA.out]; exact hkl)
          have hfr := HFr.out.frozen k
          have hcg := HFr.out.cell (i := k) (by omega)
          generalize A.getD k 0 = c at cz HK
          go_wp2
          go_roundw
          case rel => exact ⟨k + 1, by omega, by go_num, HBr.out.setCell (Nat.le_refl _) _, fill_set HFr.out c HK.out⟩
          case measure => simp [intOf]; omega
        · obtain rfl : k = len0 := by omega
          obtain ⟨w3, hw3⟩ : ∃ w3, w3 = wr := ⟨_, rfl⟩
          subst hw3
          clear hk hkl
          go_wp2
          go_loopw [11] (fun i wr => ∃ m : Nat, m ≤ len1 ∧ i = .int .i64 m ∧ Below w2.heap.size w2 wr ∧ Hid (wr.rowIs w2.heap.size 5 (k + len1) (fillF (A ++ C) (k + m)))) (fun i _ => len1 - (intOf i).toNat)
          case atStart => exact ⟨0, by omega, rfl, HBr.out, HFr⟩
          case round =>
            obtain ⟨m, hm, rfl, hBm, HFm⟩ := hrel
            have HBm : Hid (Below w2.heap.size w2 wr) := hBm
            clear hBm HFr HBr
            by_cases hml : m < len1
            · obtain ⟨b, off, rfl, hcs⟩ := HC2.out.at (k := m) (by rw [HC.out]; exact hml)
              obtain ⟨cz, hbw⟩ := hcs m (by rw [HC.out]; exact hml)
              clear hcs
              rw [← HBm.out.cell (p := ⟨b, off + m, none⟩) hbw] at cz
              have HK : Hid ((A ++ C).getD (k + m) 0 = C.getD m 0) := by
                have := getD_right A C m
                rw [HA.out] at this
                exact this
              have hfr := HFm.out.frozen (k + m)
              have hcg := HFm.out.cell (i := k + m) (by omega)
              generalize C.getD m 0 = c at cz HK
              go_wp2
              go_roundw
              case rel => exact ⟨m + 1, by omega, by go_num, HBm.out.setCell (Nat.le_refl _) _, fill_set HFm.out c HK.out⟩
              case measure => simp [intOf]; omega
            · obtain rfl : m = len1 := by omega
              obtain ⟨w4, hw4⟩ : ∃ w4, w4 = wr := ⟨_, rfl⟩
              subst hw4
              have HJ : Hid (Bts w4 (some ⟨w2.heap.size, 0, none⟩) (A ++ C)) := fill_bts HFm.out (by rw [List.length_append, HA.out, HC.out])
              have HA4 : Hid (Bts w4 ao A) := HA2.out.below HBm.out
              have HC4 : Hid (Bts w4 ao1 C) := HC2.out.below HBm.out
              have HB4 : Hid (Below w.heap.size w w4) := HB2.out.trans (HBm.out.mono HB2.out.size)
              have LJ : Hid ((A ++ C).length = k + m) := by
                show _ = _
                rw [List.length_append, HA.out, HC.out]
              have ZJ : Hid (Byt (A ++ C)) := Byt_append ZA.out ZC.out
              clear hm hml HFm HBm HA2 HC2 HB2
              go_wp2_with fail
              refine (scanSpace_any _ (k + m) _ p (A ++ C) w4 LJ.out (by omega) (by omega) HJ.out ZJ.out).mono ?_
              rintro e w5 ⟨rfl, hB5⟩
              have HB5 : Hid (Below w4.heap.size w4 w5) := hB5
              clear hB5
              go_wp2_with fail
              refine (scanSpace_any _ k _ p A w5 HA.out (by omega) (by omega) (HA4.out.below HB5.out) ZA.out).mono ?_
              rintro e w6 ⟨rfl, hB6⟩
              have HB6 : Hid (Below w4.heap.size w4 w6) := HB5.out.trans (hB6.mono HB5.out.size)
              clear hB6
              go_wp2_with fail
              refine (scanSpace_any _ m _ 0 C w6 HC.out (by omega) (by omega) (HC4.out.below HB6.out) ZC.out).mono ?_
              rintro e w7 ⟨rfl, hB7⟩
              have HB7 : Hid (Below w4.heap.size w4 w7) := HB6.out.trans (hB7.mono HB6.out.size)
              clear hB7
              have SP := stop_spec (A ++ C) _ p rfl (by rw [LJ.out]; omega)
              have HSP : Hid (_ ∧ _ ∧ _) := SP
              clear SP
              have r1 := stop_ge (A ++ C) p
              have r2 : stopAt (A ++ C) p ≤ k + m := by have := stop_le (A ++ C) p (by rw [LJ.out]; omega); rw [LJ.out] at this; exact this
              have HI : Hid (stopAt A p < k → stopAt (A ++ C) p = stopAt A p) := by
                intro h
                exact stop_join_in A C p (by rw [HA.out]; exact hp) (by rw [HA.out]; exact h)
              have HO : Hid (¬ stopAt A p < k → stopAt (A ++ C) p = k + stopAt C 0) := by
                intro h
                have := stop_join_past A C p (by rw [HA.out]; exact hp) (by rw [HA.out]; exact h)
                rw [HA.out] at this
                exact this
              have q1 : stopAt C 0 ≤ m := by have := stop_le C 0 (by omega); rw [HC.out] at this; exact this
              have q2 : stopAt A p ≤ k := by have := stop_le A p (by rw [HA.out]; exact hp); rw [HA.out] at this; exact this
              generalize stopAt A p = ra at HI HO q2 ⊢
              generalize stopAt C 0 = rc at HO q1 ⊢
              have HRr : Hid (stopAt (A ++ C) (stopAt (A ++ C) p) = stopAt (A ++ C) p) := HSP.out.2.2
              generalize stopAt (A ++ C) p = r at HI HO HSP HRr r1 r2 ⊢
              go_wp2_with fail
              refine (spaceStop_yes _ (k + m) _ p r (A ++ C) w7 LJ.out (by omega) r1 r2 (HJ.out.below HB7.out) HSP.out.1 (by rw [← LJ.out]; exact HSP.out.2.1)).mono ?_
              rintro e w8 ⟨rfl, rfl⟩
              go_wp2_with fail
              refine (scanSpace_any _ (k + m) _ r (A ++ C) w7 LJ.out (by omega) r2 (HJ.out.below HB7.out) ZJ.out).mono ?_
              rintro e w8 ⟨rfl, hB8⟩
              have HB8 : Hid (Below w.heap.size w w8) := HB4.out.trans ((HB7.out.trans (hB8.mono HB7.out.size)).mono HB4.out.size)
              rw [HRr.out]
              clear hB8 HRr HSP
              by_cases hra : ra < k
              · have e1 : Hid (r = ra) := HI.out hra
                clear HI HO
                go_wp2
                go_ret
                exact ⟨ret_true (by rw [beq_iff_eq, e1.out]), HB8.out⟩
              · have e1 : Hid (r = k + rc) := HO.out hra
                clear HI HO
                go_wp2
                go_ret
                exact ⟨ret_true (by rw [beq_iff_eq, e1.out]; omega), HB8.out⟩

theorem walk3_out (a0 : Option Addr) (len0 cap0 : Nat) (a1 : Option Addr) (len1 cap1 : Nat) (p : Int) (w : World) (hl : len0 + len1 ≤ 1048576) (h : p < 0 ∨ (len0 : Int) < p) :
    Calls Try.prog 3 #[.slice a0 len0 cap0, .slice a1 len1 cap1, .int .i64 p] w fun e w' => e = .returned (.bool true) ∧ Below w.heap.size w w' := by
  rcases h with h | h
  · have d0 : decide (p < 0) = true := decide_eq_true h
    go_enter Try.func3, Try.ntmps3
    go_wp2_with (go_at_call 6; refine (bytes6_yes _ _ _ _ _ _ _ hl _).mono ?_; rintro e w' ⟨rfl, rfl⟩)
    go_ret
    exact ⟨rfl, Below.refl _ _⟩
  · have d0 : decide (p < 0) = false := decide_eq_false (by omega)
    have d1 : decide ((len0 : Int) < p) = true := decide_eq_true h
    go_enter Try.func3, Try.ntmps3
    go_wp2_with (go_at_call 6; refine (bytes6_yes _ _ _ _ _ _ _ hl _).mono ?_; rintro e w' ⟨rfl, rfl⟩)
    go_ret
    exact ⟨rfl, Below.refl _ _⟩
theorem walk3_long (a0 : Option Addr) (len0 cap0 : Nat) (a1 : Option Addr) (len1 cap1 : Nat) (p : Int) (w : World) (hl : 1048576 < len0 + len1) :
    Calls Try.prog 3 #[.slice a0 len0 cap0, .slice a1 len1 cap1, .int .i64 p] w fun e w' => e = .returned (.bool true) ∧ Below w.heap.size w w' := by
  go_enter Try.func3, Try.ntmps3
  go_wp2_with (go_at_call 6; refine (bytes6_no _ _ _ _ _ _ _ hl _).mono ?_; rintro e w' ⟨rfl, rfl⟩)
  go_ret
  exact ⟨rfl, Below.refl _ _⟩


theorem own : ownKnob Try.prog.godebug = none := by kernel_rfl
theorem laidOut : laidOutB Try.prog = true := by kernel_rfl

/-- WHAT THE WALK IS TOLD OF A SLICE OF INTEGERS THAT CAME IN: it is nil; or it leads to a row of 'cap' cells, the numbers 'zs' (the first 'len' are its elements, the rest its spare room), each fitting its kind. -/
def IsRow (k : IntKind) (w : World) (a : Option Addr) (len cap : Nat) (zs : List Int) : Prop :=
  (a = none ∧ len = 0 ∧ cap = 0 ∧ zs = []) ∨
  ∃ x, a = some x ∧ len ≤ cap ∧ cap ≤ maxLen ∧ zs.length = cap ∧ (∀ i, i < zs.length → w.cell? (x.add i) = some (.int k (zs.getD i 0))) ∧ ∀ n ∈ zs, (Lit.int k n).wf = true

theorem held_of_row {w : World} {a : Option Addr} {len cap : Nat} {zs : List Int} (h : IsRow .u8 w a len cap zs) : ∃ A : List Int, Held w a cap A ∧ A.length = len ∧ Byt A := by
  rcases h with ⟨rfl, rfl, rfl, rfl⟩ | ⟨x, rfl, hlc, hcm, hzl, hcell, hwf⟩
  · exact ⟨[], ⟨fun _ => ⟨rfl, rfl⟩, fun ad had => by cases had⟩, rfl, fun i => by simp⟩
  · obtain ⟨h1, h2, h3, h4⟩ := row_view hlc hzl hcell hwf
    refine ⟨zs.take len, ⟨(fun e => by cases e), ?_⟩, h1, h3⟩
    intro ad had j u hu
    obtain rfl := Option.some.inj had
    obtain ⟨hj, rfl⟩ := bytesV_at hu
    exact h2 j hj

/-! ### STEP 1: THE WALK: the Go text returns true, AND WRITES NOTHING THAT WAS THERE: 'Below w.heap.size w w'' (Derived/Below.lean: '.refl', '.alloc', '.drew', '.setCell' at a new block, '.trans'). Open each 'IsRow' by 'rcases' AHEAD of 'go_enter'; part every test ahead of the walk. -/
theorem walk (a0 : Option Addr) (len0 cap0 : Nat) (z0 : List Int) (a1 : Option Addr) (len1 cap1 : Nat) (z1 : List Int) (a2 : Int) (w : World) (w0 : IsRow .u8 w a0 len0 cap0 z0) (w1 : IsRow .u8 w a1 len1 cap1 z1) (w2 : (Lit.int .i64 a2).wf = true) :
    Calls Try.prog 3 #[.slice a0 len0 cap0, .slice a1 len1 cap1, .int .i64 a2] w fun e w' => e = .returned (.bool true) ∧ Below w.heap.size w w' := by
  obtain ⟨A, hA, eA, zA⟩ := held_of_row w0
  obtain ⟨C, hC, eC, zC⟩ := held_of_row w1
  by_cases hl : len0 + len1 ≤ 1048576
  · by_cases hp : 0 ≤ a2 ∧ a2 ≤ len0
    · obtain ⟨p, rfl⟩ := Int.eq_ofNat_of_zero_le hp.1
      exact walk3 a0 len0 cap0 A a1 len1 cap1 C p w hl (by omega) eA eC hA hC zA zC
    · exact walk3_out a0 len0 cap0 a1 len1 cap1 a2 w hl (by omega)
  · exact walk3_long a0 len0 cap0 a1 len1 cap1 a2 w (by omega)

/-! ### THE ROW's STEP: WRITTEN OUT: LEAVE IT -/
set_option maxRecDepth 100000 in
theorem lifted (os : Os) (started : os.Started) (H : Type) (enc : TypeId × Value → H) :
    ReturnsInHanded {} Try.checked os 3 .any (Rows.fnSpaceStopsAtFirstNonSpaceAtAnyCutSpec.pre6 enc Try.prog Try.f3 Rows.fnSpaceStopsAtFirstNonSpaceAtAnyCutRow.domain false) (Rows.fnSpaceStopsAtFirstNonSpaceAtAnyCutSpec.post enc Try.prog Try.f3 false true false false) := by
  refine returnsInHanded_of_change (C := Try.checked) own started (by kernel_rfl) Try.func3
    (ChangeSpec.witness6 (enc := enc) (C := Try.checked) false ⟨#[], #[.slice none 0 0, .slice none 0 0, .int .i64 0], []⟩ 8 (by kernel_rfl) (by kernel_rfl) (by kernel_rfl) (by kernel_rfl)) ?_
  intro W base args ds gs before hval0 hW hcnd _
  have hval : ∀ (j : Nat) t v, Try.f3.params[j]? = some t → args[j]? = some v → Value.okWide Try.prog W .any base t v := hval0
  have hW' := hW
  obtain ⟨p, q, hA0, hV, rfl, hfz, hnd⟩ := hW
  have hA : DataW.TrodAll enc Try.prog W 0 (fun _ => true) true Try.f3.params.toList args.toList ds p := hA0
  rw [Try.params3] at hA hval
  obtain ⟨v0, vs0, d0, ds0, p0, q0, hargs, rfl, rfl, h0, r0⟩ := trodAll_cons hA
  obtain ⟨v1, vs1, d1, ds1, p1, q1, rfl, rfl, rfl, h1, r1⟩ := trodAll_cons r0
  obtain ⟨v2, vs2, d2, ds2, p2, q2, rfl, rfl, rfl, h2, r2⟩ := trodAll_cons r1
  obtain ⟨rfl, rfl, rfl⟩ := trodAll_nil r2
  obtain rfl : args = #[v0, v1, v2] := by cases args; simp_all
  obtain ⟨rfl, rfl⟩ := trodVars_none hV
  obtain ⟨a0, len0, cap0, rfl⟩ := okWide_slice Try.underlying22 (hval 0 22 v0 rfl rfl)
  have k0 := h0
  have lt0 : ∀ x ∈ p0, x.block < W.heap.size := by obtain ⟨m, hm⟩ := k0; exact DataW.trod_lt m _ _ _ hm
  obtain ⟨z0, w0⟩ : ∃ zs, IsRow .u8 W a0 len0 cap0 zs := by
    obtain ⟨fuel, hf⟩ := h0
    rcases open_ints Try.underlying22 Try.underlying5 (by kernel_rfl) hf with ⟨hcs, _⟩ | ⟨x, l, c, zs, hcs, _, hl, hm, hz, _, hcell, hwz⟩
    · simp [Value.cells] at hcs
      obtain ⟨rfl, rfl, rfl⟩ := hcs
      exact ⟨[], .inl ⟨rfl, rfl, rfl, rfl⟩⟩
    · simp [Value.cells] at hcs
      obtain ⟨rfl, rfl, rfl⟩ := hcs
      exact ⟨zs, .inr ⟨_, rfl, hl, hm, by simpa using hz, hcell, hwz⟩⟩
  obtain ⟨a1, len1, cap1, rfl⟩ := okWide_slice Try.underlying22 (hval 1 22 v1 rfl rfl)
  have k1 := h1
  have lt1 : ∀ x ∈ p1, x.block < W.heap.size := by obtain ⟨m, hm⟩ := k1; exact DataW.trod_lt m _ _ _ hm
  obtain ⟨z1, w1⟩ : ∃ zs, IsRow .u8 W a1 len1 cap1 zs := by
    obtain ⟨fuel, hf⟩ := h1
    rcases open_ints Try.underlying22 Try.underlying5 (by kernel_rfl) hf with ⟨hcs, _⟩ | ⟨x, l, c, zs, hcs, _, hl, hm, hz, _, hcell, hwz⟩
    · simp [Value.cells] at hcs
      obtain ⟨rfl, rfl, rfl⟩ := hcs
      exact ⟨[], .inl ⟨rfl, rfl, rfl, rfl⟩⟩
    · simp [Value.cells] at hcs
      obtain ⟨rfl, rfl, rfl⟩ := hcs
      exact ⟨zs, .inr ⟨_, rfl, hl, hm, by simpa using hz, hcell, hwz⟩⟩
  obtain ⟨a2, rfl, rfl, rfl, w2⟩ := open_int Try.underlying3 (hval 2 3 v2 rfl rfl) h2
  clear hA0 hval0
  refine (walk a0 len0 cap0 z0 a1 len1 cap1 z1 a2 W w0 w1 w2).mono fun e W' ⟨he, bel⟩ => ?_
  subst he
  exact ⟨_, rfl, _, _, _, [], _, [], hW', trodAll_mk1 (shut_bool Try.underlying4 _), (trodAll_cons_mk (Below.trod laidOut (by kernel_rfl) (of_decide_eq_true (by kernel_rfl)) k0 bel lt0) (trodAll_cons_mk (Below.trod laidOut (by kernel_rfl) (of_decide_eq_true (by kernel_rfl)) k1 bel lt1) (trodAll_cons_mk (shut_int Try.underlying3 w2) trodAll_mk0))), rfl, bel.frame _, fun h => by cases h⟩

theorem over : Rows.fnSpaceStopsAtFirstNonSpaceAtAnyCutRow.holds Try.pinned (OpenSpec.ofChange Rows.fnSpaceStopsAtFirstNonSpaceAtAnyCutSpec) :=
  OpenClaim.holds_of_wide 3 Try.f3 rfl rfl rfl rfl rfl rfl rfl ⟨rfl, rfl, rfl, rfl, rfl⟩ rfl rfl rfl rfl rfl (by kernel_rfl) Try.func3 (by kernel_rfl)
    (of_decide_eq_true (by kernel_rfl)) (by unfold Func.isWrapper; first | (rw [if_pos (by decide +kernel)]; kernel_rfl) | (rw [if_neg (by decide +kernel)]; exact ⟨rfl, rfl⟩))
    (fun os started H enc _ => lifted os started H enc)

/-- ████ THE STATEMENT ████ -/
theorem proved : Rows.FnSpaceStopsAtFirstNonSpaceAtAnyCutSaid := over
#print axioms proved
end Go.Proofs.Qxb6619353a.fnSpaceStopsAtFirstNonSpaceAtAnyCut
