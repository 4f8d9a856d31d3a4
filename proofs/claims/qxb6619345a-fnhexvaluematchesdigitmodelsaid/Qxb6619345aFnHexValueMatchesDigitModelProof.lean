/-
  THE PROOF OF 'Rows.FnHexValueMatchesDigitModelSaid'. The frame ('lifted', 'over') was written by the kit's program off the guide's print; the walks are mine.
-/
import Derived.Test.Qxb6619345aRows
import Derived.Test.Qxb6619345aBytes
import Derived.WalkKit
import Derived.ProofKit
import Derived.OpenShut
import Derived.ShutString
import Derived.ChangeOld
import Derived.Below
namespace Go.Proofs.Qxb6619345a.fnHexValueMatchesDigitModel
open Go.ChangeShapes Go.WideShapes Go.ChangeAt Go.RowKit
open Go.ChangeMaps (open_string shut_string)
set_option linter.unusedVariables false

theorem bytes7_yes (a : Option Addr) (n cap : Nat) (h : n ≤ 1048576) (w : World) :
    Calls Try.prog 7 #[.slice a n cap] w fun e w' => e = .returned (.bool true) ∧ w = w' := by
  go_enter Try.func7, Try.ntmps7
  go_wp2
  go_ret
  exact ⟨rfl, rfl⟩
theorem bytes7_no (a : Option Addr) (n cap : Nat) (h : 1048576 < n) (w : World) :
    Calls Try.prog 7 #[.slice a n cap] w fun e w' => e = .returned (.bool false) ∧ w = w' := by
  go_enter Try.func7, Try.ntmps7
  go_wp2
  go_ret
  exact ⟨rfl, rfl⟩

theorem walk3_long (a : Option Addr) (len cap : Nat) (h : 1048576 < len) (w : World) :
    Calls Try.prog 3 #[.slice a len cap] w fun e w' => e = .returned (.bool true) ∧ Below w.heap.size w w' := by
  go_enter Try.func3, Try.ntmps3
  go_wp2_with (go_at_call 7; refine (bytes7_no _ _ _ h _).mono ?_; rintro e w' ⟨rfl, rfl⟩)
  go_ret
  exact ⟨rfl, Below.refl _ _⟩

theorem ZZhexValue_nil (w : World) : Calls Try.prog 8 #[.slice none 0 0] w fun e w' => e = .returned (.tuple #[.int .i32 0, .int .i64 0]) ∧ w = w' := by
  refine (ZZhexValue_any none 0 0 [] w rfl (by omega) (.inl rfl) (fun i => by simp)).mono ?_
  rintro e w' ⟨rfl, rfl⟩
  exact ⟨tup_hex (by simp [hexR, run, hexI, wrap32]) (by simp [hexN, run]), rfl⟩

theorem walk3_nil (w : World) :
    Calls Try.prog 3 #[.slice none 0 0] w fun e w' => e = .returned (.bool true) ∧ Below w.heap.size w w' := by
  have hnn := fun (w : World) => run_neq_slice_nil_any (P := Try.prog) w 22 5 none 0 0 0 0 Try.underlying22
  go_enter Try.func3, Try.ntmps3
  go_wp2_with (first
    | (go_at_call 7; refine (bytes7_yes _ 0 _ (by omega) _).mono ?_; rintro e w' ⟨rfl, rfl⟩)
    | (go_at_call 8; refine (ZZhexValue_nil _).mono ?_; rintro e w' ⟨rfl, rfl⟩))
  refine wp_loop_rounds 1 ?_
  rw [rounds_succ]
  go_wp2
  refine wp_loop_rounds 1 ?_
  rw [rounds_succ]
  go_wp2
  go_ret
  exact ⟨rfl, Below.refl _ _⟩

set_option maxHeartbeats 1000000 in
theorem walk3_some (x : Addr) (len cap : Nat) (ys : List Int) (w : World) (hl : len ≤ 1048576) (hy : ys.length = len) (hcell : ∀ i, i < ys.length → w.cell? (x.add i) = some (.int .u8 (ys.getD i 0))) (hz : Byt ys) (hx : 0 < len → x.block < w.heap.size) :
    Calls Try.prog 3 #[.slice (some x) len cap] w fun e w' => e = .returned (.bool true) ∧ Below w.heap.size w w' := by
  have d0 : decide (1048576 < (len : Int)) = false := decide_eq_false (by omega)
  have hmk := run_make_row' (P := Try.prog) 22 5 (.int .u8 0) 1 Try.underlying22 Try.info5 rfl .i64 .i64 len (by omega) (by omega)
  have hnn := fun (w : World) => run_neq_slice_nil_any (P := Try.prog) w 22 5 (some x) len cap 0 0 Try.underlying22
  have HY : Hid (ys.length = len) := hy
  have HZ : Hid (Byt ys) := hz
  have HS : Hid (∀ j v, (bytesV ys)[j]? = some v → (w.alloc (.cells (madeCells #[.int .u8 0] len) 5)).cell? (x.add j) = some v) := by
    show ∀ j v, (bytesV ys)[j]? = some v → (w.alloc (.cells (madeCells #[.int .u8 0] len) 5)).cell? (x.add j) = some v
    intro j v hv
    obtain ⟨h1, rfl⟩ := bytesV_at hv
    rw [← hcell j h1]
    exact Below.cell ((Below.refl w.heap.size w).alloc (Nat.le_refl _) _) (p := x.add j) (by rw [add_block]; exact hx (by omega))
  clear hy hz hcell hx
  go_enter Try.func3, Try.ntmps3
  go_wp2_with (first
    | (go_at_call 7; refine (bytes7_yes _ _ _ hl _).mono ?_; rintro e w' ⟨rfl, rfl⟩)
    | (refine wpList_copy_splice rfl (.tmp 26) (.tmp 27) 22 22 rfl 5 Try.underlying22 Try.size5 _ _ _ _ _ _ rfl rfl w.heap.size 0 (zeros len) 5 (made_at w len) (bytesV ys) (by rw [bytesV_length, HY.out]; simp) (fun _ => ⟨rfl, x, rfl, HS.out⟩) (by rw [bytesV_length, HY.out, zeros_length]; omega) (bytesV_one ys) w.heap.size w ((Below.refl _ _).alloc (Nat.le_refl _) _) (Nat.le_refl _) ?_; intro w2 HG2 hB2))
  have HG : Hid (w2.heap[w.heap.size]? = some (.cells (bytesV ys).toArray 5 (0, 0))) := by
    have := HG2.out
    rw [splice_whole len ys HY.out] at this
    exact this
  clear HG2 HS
  have HB : Hid (Below w.heap.size w w2) := hB2
  clear hB2
  refine (ZZhexValue_any _ len _ ys w2 HY.out hl (Bts_of_block HG.out) HZ.out).mono ?_
  rintro e w' ⟨rfl, rfl⟩
  have hN : hexN ys ≤ len := by have := run_le ys; rw [HY.out] at this; exact this
  generalize hNe : hexN ys = N at hN
  have HN : Hid (hexN ys = N) := hNe
  clear hNe
  generalize hRe : hexR ys = R
  have HR : Hid (hexR ys = R) := hRe
  clear hRe
  have d1 : decide ((N : Int) < 0) = false := decide_eq_false (by omega)
  have d2 : decide (len < N) = false := decide_eq_false (by omega)
  go_wp2_with fail
  go_loop [6] (fun i => ∃ k : Nat, k ≤ N ∧ i = .int .i64 k) (fun i => N - (intOf i).toNat)
  case atStart => exact ⟨0, by omega, rfl⟩
  case round =>
    obtain ⟨k, hk, rfl⟩ := hrel
    by_cases hlt : k < N
    · have hc : w2.cell? ⟨w.heap.size, k, none⟩ = some (.int .u8 (ys.getD k 0)) := cell_of_bytes HG.out (by rw [HY.out]; omega)
      have hd : hxb (ys.getD k 0) = true := run_digit ys k (by rw [HN.out]; exact hlt)
      generalize ys.getD k 0 = c at hc hd
      go_wp2_with (go_at_call 9; refine (hexDigit_any _ _).mono ?_; rintro e w' ⟨rfl, rfl⟩)
      go_round
      case rel => exact ⟨k + 1, by omega, by go_num⟩
      case measure => simp [intOf]; omega
    · obtain rfl : k = N := by omega
      have hc0 : k < len → w2.cell? ⟨w.heap.size, k, none⟩ = some (.int .u8 (ys.getD k 0)) := fun h => cell_of_bytes HG.out (by rw [HY.out]; exact h)
      have hd0 : k < len → hxb (ys.getD k 0) = false := fun h => by
        have := run_next ys (by rw [HN.out, HY.out]; exact h)
        rw [HN.out] at this
        exact this
      generalize ys.getD k 0 = c at hc0 hd0
      have HC0 : Hid (k < len → w2.cell? ⟨w.heap.size, k, none⟩ = some (.int .u8 c)) := hc0
      have HD0 : Hid (k < len → hxb c = false) := hd0
      clear hc0 hd0
      have Dd : (k < len ∧ hxb c = false ∧ decide (k < len) = true) ∨ (¬ k < len ∧ hxb c = hxb c ∧ decide (k < len) = false) := by
        by_cases h : k < len
        · exact .inl ⟨h, HD0.out h, decide_eq_true h⟩
        · exact .inr ⟨h, rfl, decide_eq_false h⟩
      rcases Dd with ⟨hlen, hd, d3⟩ | ⟨hlen, hd, d3⟩
      · have hc := HC0.out hlen
        clear HC0 HD0
        go_wp2_with (go_at_call 9; refine (hexDigit_any _ _).mono ?_; rintro e w' ⟨rfl, rfl⟩)
        clear hc hd
        go_loop [11, 12] (fun v j => ∃ m : Nat, m ≤ 8 ∧ m ≤ k ∧ j = .int .i64 m ∧ v = .int .u32 (lastV ys k m)) (fun _ j => 8 - (intOf j).toNat)
        case atStart => exact ⟨0, by omega, by omega, rfl, by rw [lastV_zero]⟩
        case round =>
          obtain ⟨m, hm8, hmk', rfl, rfl⟩ := hrel
          by_cases hm : m < 8
          · by_cases hmk2 : m < k
            · have hcm : w2.cell? ⟨w.heap.size, k - 1 - m, none⟩ = some (.int .u8 (ys.getD (k - 1 - m) 0)) := cell_of_bytes HG.out (by rw [HY.out]; omega)
              have V : Hid (_ = _) := lastV_or ys k m (by rw [HY.out]; exact hN) hmk2 hm _ rfl
              generalize ys.getD (k - 1 - m) 0 = cm at hcm V
              go_wp2_with (go_at_call 9; refine (hexDigit_any _ _).mono ?_; rintro e w' ⟨rfl, rfl⟩)
              go_round
              case rel => exact ⟨m + 1, by omega, by omega, by go_num, by rw [V.out]⟩
              case measure => simp [intOf]; omega
            · have E : Hid (_ = _) := hexR_eq ys k m HN.out hmk' (.inr (by omega))
              go_wp2
              go_ret
              exact ⟨ret_true (by rw [beq_iff_eq, ← HR.out]; exact E.out), HB.out⟩
          · have E : Hid (_ = _) := hexR_eq ys k m HN.out hmk' (.inl (by omega))
            go_wp2
            go_ret
            exact ⟨ret_true (by rw [beq_iff_eq, ← HR.out]; exact E.out), HB.out⟩
      · clear HC0 HD0 hd
        go_wp2_with (go_at_call 9; refine (hexDigit_any _ _).mono ?_; rintro e w' ⟨rfl, rfl⟩)
        go_loop [11, 12] (fun v j => ∃ m : Nat, m ≤ 8 ∧ m ≤ k ∧ j = .int .i64 m ∧ v = .int .u32 (lastV ys k m)) (fun _ j => 8 - (intOf j).toNat)
        case atStart => exact ⟨0, by omega, by omega, rfl, by rw [lastV_zero]⟩
        case round =>
          obtain ⟨m, hm8, hmk', rfl, rfl⟩ := hrel
          by_cases hm : m < 8
          · by_cases hmk2 : m < k
            · have hcm : w2.cell? ⟨w.heap.size, k - 1 - m, none⟩ = some (.int .u8 (ys.getD (k - 1 - m) 0)) := cell_of_bytes HG.out (by rw [HY.out]; omega)
              have V : Hid (_ = _) := lastV_or ys k m (by rw [HY.out]; exact hN) hmk2 hm _ rfl
              generalize ys.getD (k - 1 - m) 0 = cm at hcm V
              go_wp2_with (go_at_call 9; refine (hexDigit_any _ _).mono ?_; rintro e w' ⟨rfl, rfl⟩)
              go_round
              case rel => exact ⟨m + 1, by omega, by omega, by go_num, by rw [V.out]⟩
              case measure => simp [intOf]; omega
            · have E : Hid (_ = _) := hexR_eq ys k m HN.out hmk' (.inr (by omega))
              go_wp2
              go_ret
              exact ⟨ret_true (by rw [beq_iff_eq, ← HR.out]; exact E.out), HB.out⟩
          · have E : Hid (_ = _) := hexR_eq ys k m HN.out hmk' (.inl (by omega))
            go_wp2
            go_ret
            exact ⟨ret_true (by rw [beq_iff_eq, ← HR.out]; exact E.out), HB.out⟩

theorem own : ownKnob Try.prog.godebug = none := by kernel_rfl
theorem laidOut : laidOutB Try.prog = true := by kernel_rfl

/-- WHAT THE WALK IS TOLD OF A SLICE OF INTEGERS THAT CAME IN: it is nil; or it leads to a row of 'cap' cells, the numbers 'zs' (the first 'len' are its elements, the rest its spare room), each fitting its kind. -/
def IsRow (k : IntKind) (w : World) (a : Option Addr) (len cap : Nat) (zs : List Int) : Prop :=
  (a = none ∧ len = 0 ∧ cap = 0 ∧ zs = []) ∨
  ∃ x, a = some x ∧ len ≤ cap ∧ cap ≤ maxLen ∧ zs.length = cap ∧ (∀ i, i < zs.length → w.cell? (x.add i) = some (.int k (zs.getD i 0))) ∧ ∀ n ∈ zs, (Lit.int k n).wf = true

/-! ### STEP 1: THE WALK: the Go text returns true, AND WRITES NOTHING THAT WAS THERE: 'Below w.heap.size w w'' (Derived/Below.lean: '.refl', '.alloc', '.drew', '.setCell' at a new block, '.trans'). Open each 'IsRow' by 'rcases' AHEAD of 'go_enter'; part every test ahead of the walk. -/
theorem walk (a0 : Option Addr) (len0 cap0 : Nat) (z0 : List Int) (w : World) (w0 : IsRow .u8 w a0 len0 cap0 z0) :
    Calls Try.prog 3 #[.slice a0 len0 cap0] w fun e w' => e = .returned (.bool true) ∧ Below w.heap.size w w' := by
  by_cases hl : len0 ≤ 1048576
  · rcases w0 with ⟨rfl, rfl, rfl, rfl⟩ | ⟨x, rfl, hlc, hcm, hzl, hcell, hwf⟩
    · exact walk3_nil w
    · obtain ⟨h1, h2, h3, h4⟩ := row_view hlc hzl hcell hwf
      exact walk3_some x len0 cap0 (z0.take len0) w hl h1 h2 h3 h4
  · exact walk3_long a0 len0 cap0 (by omega) w

/-! ### THE ROW's STEP: WRITTEN OUT: LEAVE IT -/
set_option maxRecDepth 100000 in
theorem lifted (os : Os) (started : os.Started) (H : Type) (enc : TypeId × Value → H) :
    ReturnsInHanded {} Try.checked os 3 .any (Rows.fnHexValueMatchesDigitModelSpec.pre6 enc Try.prog Try.f3 Rows.fnHexValueMatchesDigitModelRow.domain false) (Rows.fnHexValueMatchesDigitModelSpec.post enc Try.prog Try.f3 false true false false) := by
  refine returnsInHanded_of_change (C := Try.checked) own started (by kernel_rfl) Try.func3
    (ChangeSpec.witness6 (enc := enc) (C := Try.checked) false ⟨#[], #[.slice none 0 0], []⟩ 8 (by kernel_rfl) (by kernel_rfl) (by kernel_rfl) (by kernel_rfl)) ?_
  intro W base args ds gs before hval0 hW hcnd _
  have hval : ∀ (j : Nat) t v, Try.f3.params[j]? = some t → args[j]? = some v → Value.okWide Try.prog W .any base t v := hval0
  have hW' := hW
  obtain ⟨p, q, hA0, hV, rfl, hfz, hnd⟩ := hW
  have hA : DataW.TrodAll enc Try.prog W 0 (fun _ => true) true Try.f3.params.toList args.toList ds p := hA0
  rw [Try.params3] at hA hval
  obtain ⟨v0, vs0, d0, ds0, p0, q0, hargs, rfl, rfl, h0, r0⟩ := trodAll_cons hA
  obtain ⟨rfl, rfl, rfl⟩ := trodAll_nil r0
  obtain rfl : args = #[v0] := by cases args; simp_all
  obtain ⟨rfl, rfl⟩ := trodVars_none hV
  obtain ⟨a0, len0, cap0, rfl⟩ := okWide_slice Try.underlying22 (hval 0 22 v0 rfl rfl)
  have k0 := h0
  have lt0 : ∀ x ∈ p0, x.block < W.heap.size := by obtain ⟨m, hm⟩ := k0; exact DataW.trod_lt m _ _ _ hm
  obtain ⟨z0, w0⟩ : ∃ zs, IsRow .u8 W a0 len0 cap0 zs := by
    obtain ⟨fuel, hf⟩ := h0
    rcases open_ints Try.underlying22 Try.underlying5 (by kernel_rfl) hf with ⟨hcs, _⟩ | ⟨x, l, c, zs, hcs, _, hl, hm, hz, _, hcell, hwz⟩
    · simp [Value.cells] at hcs
      obtain ⟨rfl, rfl, rfl⟩ := hcs
      exact ⟨[], .inl ⟨rfl, rfl, rfl, rfl⟩⟩
    · simp [Value.cells] at hcs
      obtain ⟨rfl, rfl, rfl⟩ := hcs
      exact ⟨zs, .inr ⟨_, rfl, hl, hm, by simpa using hz, hcell, hwz⟩⟩
  clear hA0 hval0
  refine (walk a0 len0 cap0 z0 W w0).mono fun e W' ⟨he, bel⟩ => ?_
  subst he
  exact ⟨_, rfl, _, _, _, [], _, [], hW', trodAll_mk1 (shut_bool Try.underlying4 _), (trodAll_cons_mk (Below.trod laidOut (by kernel_rfl) (of_decide_eq_true (by kernel_rfl)) k0 bel lt0) trodAll_mk0), rfl, bel.frame _, fun h => by cases h⟩

theorem over : Rows.fnHexValueMatchesDigitModelRow.holds Try.pinned (OpenSpec.ofChange Rows.fnHexValueMatchesDigitModelSpec) :=
  OpenClaim.holds_of_wide 3 Try.f3 rfl rfl rfl rfl rfl rfl rfl ⟨rfl, rfl, rfl, rfl, rfl⟩ rfl rfl rfl rfl rfl (by kernel_rfl) Try.func3 (by kernel_rfl)
    (of_decide_eq_true (by kernel_rfl)) (by unfold Func.isWrapper; first | (rw [if_pos (by decide +kernel)]; kernel_rfl) | (rw [if_neg (by decide +kernel)]; exact ⟨rfl, rfl⟩))
    (fun os started H enc _ => lifted os started H enc)

/-- ████ THE STATEMENT ████ -/
theorem proved : Rows.FnHexValueMatchesDigitModelSaid := over
#print axioms proved
end Go.Proofs.Qxb6619345a.fnHexValueMatchesDigitModel
