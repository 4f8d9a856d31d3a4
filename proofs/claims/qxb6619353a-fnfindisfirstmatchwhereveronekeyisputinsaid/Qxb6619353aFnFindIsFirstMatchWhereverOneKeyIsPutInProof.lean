/-
  THE PROOF OF 'Rows.FnFindIsFirstMatchWhereverOneKeyIsPutInSaid'. The frame ('lifted', 'over') after the kit's own shells, typed for a slice of slices; the walks are mine.
-/
import Derived.Test.Qxb6619353aRows
import Derived.Test.Qxb6619353aOpenKeys
import Derived.WalkKit
import Derived.ProofKit
import Derived.OpenShut
import Derived.ShutString
import Derived.ChangeOld
import Derived.Below
namespace Go.Proofs.Qxb6619353a.fnFindIsFirstMatchWhereverOneKeyIsPutIn
open Go.ChangeShapes Go.WideShapes Go.ChangeAt Go.RowKit
open Go.ChangeMaps (open_string shut_string)
set_option linter.unusedVariables false

set_option maxRecDepth 100000 in
set_option maxHeartbeats 4000000 in
theorem walk4 (ko : Option Addr) (n cap : Nat) (K : Nat → KeyV) (s : ByteArray) (j : Nat) (w : World) (hR : RawK w ko n K) (hL : Loose w n K) (hj : j ≤ n) :
    Calls Try.prog 4 #[.slice ko n cap, .string s, .int .i64 j] w fun e w' => e = .returned (.bool true) ∧ Below w.heap.size w w' := by
  have HW : Hid (Calls Try.prog 9 #[.slice ko n cap, .string s, .int .i64 j] w (WeakB w (Bound1 K n s))) := bytes9_weak ko n cap K s j w hR
  have HR : Hid (RawK w ko n K) := hR
  have HL : Hid (Loose w n K) := hL
  clear hR hL
  go_enter Try.func4, Try.ntmps4
  go_wp2_with fail
  refine HW.out.mono ?_
  rintro e w' ⟨b, rfl, rfl, hb⟩
  cases b with
  | false =>
    clear hb
    go_wp2
    go_ret
    exact ⟨rfl, Below.refl _ _⟩
  | true =>
    obtain ⟨hn, hs, hS⟩ := hb rfl
    have HS : Hid (Short K n) := hS
    have HK : Hid (Keys w ko n K) := HL.out.keys HR.out hS
    clear hS hb HW
    have d0 : decide (1048576 < (s.size : Int)) = false := decide_eq_false (by omega)
    go_wp2
    go_loop [7, 8] (fun t i => ∃ (k : Nat) (z : Int), k ≤ n ∧ i = .int .i64 k ∧ t = .int .i64 z ∧ 0 ≤ z ∧ z ≤ 1048576) (fun _ i => n - (intOf i).toNat)
    case atStart => exact ⟨0, s.size, by omega, rfl, rfl, by omega, by omega⟩
    case round =>
      obtain ⟨k, z, hk, rfl, rfl, hz0, hz1⟩ := hrel
      by_cases hkn : k < n
      · obtain ⟨b, off, rfl, cz⟩ := HR.out.at hkn
        have hLk := HS.out k hkn
        generalize (K k).l = L at cz hLk
        by_cases ht : z + (24 + L) ≤ 1048576
        · go_wp2
          go_round
          case rel => exact ⟨k + 1, z + (24 + L), by omega, by go_num, rfl, by omega, by omega⟩
          case measure => simp [intOf]; omega
        · go_wp2
          go_ret
          exact ⟨rfl, Below.refl _ _⟩
      · have d1 : decide ((j : Int) < 0) = false := decide_eq_false (by omega)
        have d2 : decide (n < j) = false := decide_eq_false (by omega)
        go_wp2_with fail
        refine (objFind_any ko n cap K s w (by omega) HK.out).mono ?_
        rintro e w1 ⟨r, rfl, hr, hB1⟩
        have HF : Hid (First (fun i => keyEq (K i).ys s) n r) := hr
        have HB1 : Hid (Below w.heap.size w w1) := hB1
        obtain ⟨r1, r2⟩ := hr.bd
        clear hr hB1
        go_wp2_with fail
        refine (firstMatch_yes ko n cap K s r w1 hn hs (HK.out.below HB1.out) HF.out).mono ?_
        rintro e w2 ⟨rfl, hB2⟩
        have HB2 : Hid (Below w.heap.size w w2) := HB1.out.trans (hB2.mono HB1.out.size)
        clear hB2 HB1
        have hmk := run_make_row' (P := Try.prog) 22 5 (.int .u8 0) 1 Try.underlying22 Try.info5 rfl .i64 .i64 s.size (by omega) (by omega)
        go_wp2
        clear hmk
        have HP0 : Hid ((w2.alloc (.cells (madeCells #[.int .u8 0] s.size) 5)).rowIs w2.heap.size 5 s.size (fillF (numsOf s) 0)) := fill_made w2 s.size (numsOf s)
        go_loopw [11] (fun i wr => ∃ q : Nat, q ≤ s.size ∧ i = .int .i64 q ∧ Hid (Below w2.heap.size w2 wr) ∧ Hid (wr.rowIs w2.heap.size 5 s.size (fillF (numsOf s) q))) (fun i _ => s.size - (intOf i).toNat)
        case atStart => exact ⟨0, by omega, rfl, (Below.refl _ _).alloc (Nat.le_refl _) _, HP0⟩
        case round =>
          obtain ⟨q, hq, rfl, HBq, HPq⟩ := hrel
          clear HP0
          by_cases hqs : q < s.size
          · have hfr := HPq.out.frozen q
            have hcg := HPq.out.cell hqs
            have HV : Hid ((numsOf s).getD q 0 = ((s[q]'hqs).toNat : Int)) := numsOf_at s q hqs
            go_wp2
            go_roundw
            case rel => exact ⟨q + 1, by omega, by go_num, HBq.out.setCell (Nat.le_refl _) _, fill_set HPq.out _ HV.out⟩
            case measure => simp [intOf]; omega
          · obtain rfl : q = s.size := by omega
            obtain ⟨w3, hw3⟩ : ∃ w3, w3 = wr := ⟨_, rfl⟩
            subst hw3
            have HQ3 : Hid ((KeyV.mk (some ⟨w2.heap.size, 0, none⟩) s.size s.size (numsOf s)).ok w3) := ok_put HPq.out hs
            have HB3 : Hid (Below w.heap.size w w3) := HB2.out.trans (HBq.out.mono HB2.out.size)
            have HK3 : Hid (Keys w3 ko n K) := HK.out.below HB3.out
            clear HBq HPq HB2 HK hq hqs
            have hmk := run_make_row' (P := Try.prog) 26 22 (.slice none 0 0) 24 Try.underlying26 Try.info22 rfl .i64 .i64 (n + 1) (by omega) (by omega)
            rw [show (((n + 1 : Nat)) : Int) = (n : Int) + 1 from by omega] at hmk
            go_wp2
            clear hmk
            obtain ⟨V, hV⟩ : ∃ V, V = putK K j (KeyV.mk (some ⟨w2.heap.size, 0, none⟩) s.size s.size (numsOf s)) := ⟨_, rfl⟩
            have HVe : Hid (V = putK K j (KeyV.mk (some ⟨w2.heap.size, 0, none⟩) s.size s.size (numsOf s))) := hV
            clear hV
            have HI0 : Hid ((w3.alloc (.cells (madeCells #[.slice none 0 0] (n + 1)) 22)).rowIs w3.heap.size 22 (n + 1) (insF V 0)) := ins_made w3 (n + 1) V
            go_loopw [13] (fun i wr => ∃ q : Nat, q ≤ j ∧ i = .int .i64 q ∧ Hid (Below w3.heap.size w3 wr) ∧ Hid (wr.rowIs w3.heap.size 22 (n + 1) (insF V q))) (fun i _ => j - (intOf i).toNat)
            case atStart => exact ⟨0, by omega, rfl, (Below.refl _ _).alloc (Nat.le_refl _) _, HI0⟩
            case round =>
              obtain ⟨q, hq, rfl, HBq, HIq⟩ := hrel
              clear HI0
              by_cases hqj : q < j
              · obtain ⟨b, off, rfl, cz, hbw⟩ := HK3.out.at (show q < n by omega)
                rw [← HBq.out.cell (p := ⟨b, off + q, none⟩) hbw] at cz
                have hfr := HIq.out.frozen q
                have hcg := HIq.out.cell (i := q) (by omega)
                have HVq : Hid (V q = K q) := by rw [HVe.out]; exact putK_lt hqj
                go_wp2
                go_roundw
                case rel => exact ⟨q + 1, by omega, by go_num, HBq.out.setCell (Nat.le_refl _) _, ins_set HIq.out _ HVq.out⟩
                case measure => simp [intOf]; omega
              · obtain rfl : q = j := by omega
                have hfr := HIq.out.frozen q
                have hcg := HIq.out.cell (i := q) (by omega)
                have HIj : Hid ((wr.setCell ⟨w3.heap.size, q, none⟩ (.slice (some ⟨w2.heap.size, 0, none⟩) s.size s.size)).rowIs w3.heap.size 22 (n + 1) (insF V (q + 1))) := ins_set HIq.out (KeyV.mk (some ⟨w2.heap.size, 0, none⟩) s.size s.size (numsOf s)) (by rw [HVe.out]; exact putK_at)
                have HBj : Hid (Below w3.heap.size w3 (wr.setCell ⟨w3.heap.size, q, none⟩ (.slice (some ⟨w2.heap.size, 0, none⟩) s.size s.size))) := HBq.out.setCell (Nat.le_refl _) _
                obtain ⟨w4, hw4⟩ : ∃ w4, w4 = wr := ⟨_, rfl⟩
                subst hw4
                go_wp2
                clear hfr hcg HBq HIq
                go_loopw [14] (fun i wr => ∃ t : Nat, q ≤ t ∧ t ≤ n ∧ i = .int .i64 t ∧ Hid (Below w3.heap.size w3 wr) ∧ Hid (wr.rowIs w3.heap.size 22 (n + 1) (insF V (t + 1)))) (fun i _ => n - (intOf i).toNat)
                case atStart => exact ⟨q, by omega, by omega, rfl, HBj, HIj⟩
                case round =>
                  obtain ⟨t, ht1, ht2, rfl, HBt, HIt⟩ := hrel
                  clear HBj HIj
                  by_cases htn : t < n
                  · obtain ⟨b, off, rfl, cz, hbw⟩ := HK3.out.at htn
                    rw [← HBt.out.cell (p := ⟨b, off + t, none⟩) hbw] at cz
                    have hfr := HIt.out.frozen (t + 1)
                    have hcg := HIt.out.cell (i := t + 1) (by omega)
                    have HVt : Hid (V (t + 1) = K t) := by rw [HVe.out]; exact putK_gt ht1
                    go_wp2
                    go_roundw
                    case rel => exact ⟨t + 1, by omega, by omega, by go_num, HBt.out.setCell (Nat.le_refl _) _, ins_set HIt.out _ HVt.out⟩
                    case measure => simp [intOf]; omega
                  · obtain rfl : t = n := by omega
                    have HKV : Hid (Keys wr (some ⟨w3.heap.size, 0, none⟩) (t + 1) V) := by
                      refine ins_keys HIt.out fun i hi => ?_
                      rw [HVe.out]
                      unfold putK
                      split
                      · exact (HK3.out.1 i (by omega)).below HBt.out
                      · split
                        · exact HQ3.out.below HBt.out
                        · exact (HK3.out.1 (i - 1) (by omega)).below HBt.out
                    have HFP : Hid (First (fun i => keyEq (V i).ys s) (t + 1) (if 0 ≤ r ∧ r < (q : Int) then r else q)) := by
                      refine first_put HF.out hj (fun i hi => ?_) ?_
                      · show keyEq (V i).ys s = keyEq (K i).ys s
                        rw [HVe.out, putK_lt hi]
                      · show keyEq (V q).ys s = true
                        rw [HVe.out, putK_at]
                        exact keyEq_self s
                    have HBr : Hid (Below w.heap.size w wr) := HB3.out.trans (HBt.out.mono HB3.out.size)
                    clear HIt HBt HVe HQ3 HK3 HB3
                    go_wp2_with fail
                    refine (objFind_any (some ⟨w3.heap.size, 0, none⟩) (t + 1) (t + 1) V s wr (by omega) HKV.out).mono ?_
                    rintro e w5 ⟨x, rfl, hx, hB5⟩
                    have HX : Hid (x = if 0 ≤ r ∧ r < (q : Int) then r else q) := hx.uniq HFP.out
                    have HB5 : Hid (Below w.heap.size w w5) := HBr.out.trans (hB5.mono HBr.out.size)
                    clear hx hB5 HFP
                    by_cases h0 : 0 ≤ r
                    · by_cases h1 : r < q
                      · go_wp2
                        go_ret
                        exact ⟨ret_true (by rw [beq_iff_eq, HX.out, if_pos ⟨h0, h1⟩]), HB5.out⟩
                      · go_wp2
                        go_ret
                        exact ⟨ret_true (by rw [beq_iff_eq, HX.out, if_neg (by omega)]), HB5.out⟩
                    · have d3 : decide (0 ≤ r) = false := decide_eq_false h0
                      go_wp2
                      go_ret
                      exact ⟨ret_true (by rw [beq_iff_eq, HX.out, if_neg (by omega)]), HB5.out⟩

set_option maxRecDepth 100000 in
set_option maxHeartbeats 1000000 in
theorem walk4_out (ko : Option Addr) (n cap : Nat) (K : Nat → KeyV) (s : ByteArray) (j : Int) (w : World) (hR : RawK w ko n K) (hj : j < 0 ∨ (n : Int) < j) :
    Calls Try.prog 4 #[.slice ko n cap, .string s, .int .i64 j] w fun e w' => e = .returned (.bool true) ∧ Below w.heap.size w w' := by
  have HW : Hid (Calls Try.prog 9 #[.slice ko n cap, .string s, .int .i64 j] w (WeakB w (Bound1 K n s))) := bytes9_weak ko n cap K s j w hR
  have HR : Hid (RawK w ko n K) := hR
  clear hR
  go_enter Try.func4, Try.ntmps4
  go_wp2_with fail
  refine HW.out.mono ?_
  rintro e w' ⟨b, rfl, rfl, hb⟩
  cases b with
  | false =>
    clear hb
    go_wp2
    go_ret
    exact ⟨rfl, Below.refl _ _⟩
  | true =>
    obtain ⟨hn, hs, hS⟩ := hb rfl
    have HS : Hid (Short K n) := hS
    clear hS hb HW
    have d0 : decide (1048576 < (s.size : Int)) = false := decide_eq_false (by omega)
    go_wp2
    go_loop [7, 8] (fun t i => ∃ (k : Nat) (z : Int), k ≤ n ∧ i = .int .i64 k ∧ t = .int .i64 z ∧ 0 ≤ z ∧ z ≤ 1048576) (fun _ i => n - (intOf i).toNat)
    case atStart => exact ⟨0, s.size, by omega, rfl, rfl, by omega, by omega⟩
    case round =>
      obtain ⟨k, z, hk, rfl, rfl, hz0, hz1⟩ := hrel
      by_cases hkn : k < n
      · obtain ⟨b, off, rfl, cz⟩ := HR.out.at hkn
        have hLk := HS.out k hkn
        generalize (K k).l = L at cz hLk
        by_cases ht : z + (24 + L) ≤ 1048576
        · go_wp2
          go_round
          case rel => exact ⟨k + 1, z + (24 + L), by omega, by go_num, rfl, by omega, by omega⟩
          case measure => simp [intOf]; omega
        · go_wp2
          go_ret
          exact ⟨rfl, Below.refl _ _⟩
      · rcases hj with hj | hj
        · have d1 : decide (j < 0) = true := decide_eq_true hj
          go_wp2
          go_ret
          exact ⟨rfl, Below.refl _ _⟩
        · have d1 : decide (j < 0) = false := decide_eq_false (by omega)
          have d2 : decide ((n : Int) < j) = true := decide_eq_true hj
          go_wp2
          go_ret
          exact ⟨rfl, Below.refl _ _⟩

theorem own : ownKnob Try.prog.godebug = none := by kernel_rfl
theorem laidOut : laidOutB Try.prog = true := by kernel_rfl

theorem walk (ko : Option Addr) (n cap : Nat) (K : Nat → KeyV) (s : ByteArray) (j : Int) (w : World) (hR : RawK w ko n K) (hL : Loose w n K) :
    Calls Try.prog 4 #[.slice ko n cap, .string s, .int .i64 j] w fun e w' => e = .returned (.bool true) ∧ Below w.heap.size w w' := by
  by_cases hj : 0 ≤ j ∧ j ≤ n
  · obtain ⟨q, rfl⟩ := Int.eq_ofNat_of_zero_le hj.1
    exact walk4 ko n cap K s q w hR hL (by omega)
  · exact walk4_out ko n cap K s j w hR (by omega)

set_option maxRecDepth 100000 in
theorem lifted (os : Os) (started : os.Started) (H : Type) (enc : TypeId × Value → H) :
    ReturnsInHanded {} Try.checked os 4 .any (Rows.fnFindIsFirstMatchWhereverOneKeyIsPutInSpec.pre6 enc Try.prog Try.f4 Rows.fnFindIsFirstMatchWhereverOneKeyIsPutInRow.domain false) (Rows.fnFindIsFirstMatchWhereverOneKeyIsPutInSpec.post enc Try.prog Try.f4 false true false false) := by
  refine returnsInHanded_of_change (C := Try.checked) own started (by kernel_rfl) Try.func4
    (ChangeSpec.witness6 (enc := enc) (C := Try.checked) false ⟨#[], #[.slice none 0 0, .string ByteArray.empty, .int .i64 0], []⟩ 8 (by kernel_rfl) (by kernel_rfl) (by kernel_rfl) (by kernel_rfl)) ?_
  intro W base args ds gs before hval0 hW hcnd _
  have hval : ∀ (j : Nat) t v, Try.f4.params[j]? = some t → args[j]? = some v → Value.okWide Try.prog W .any base t v := hval0
  have hW' := hW
  obtain ⟨p, q, hA0, hV, rfl, hfz, hnd⟩ := hW
  have hA : DataW.TrodAll enc Try.prog W 0 (fun _ => true) true Try.f4.params.toList args.toList ds p := hA0
  rw [Try.params4] at hA hval
  obtain ⟨v0, vs0, d0, ds0, p0, q0, hargs, rfl, rfl, h0, r0⟩ := trodAll_cons hA
  obtain ⟨v1, vs1, d1, ds1, p1, q1, rfl, rfl, rfl, h1, r1⟩ := trodAll_cons r0
  obtain ⟨v2, vs2, d2, ds2, p2, q2, rfl, rfl, rfl, h2, r2⟩ := trodAll_cons r1
  obtain ⟨rfl, rfl, rfl⟩ := trodAll_nil r2
  obtain rfl : args = #[v0, v1, v2] := by cases args; simp_all
  obtain ⟨rfl, rfl⟩ := trodVars_none hV
  obtain ⟨a0, len0, cap0, rfl⟩ := okWide_slice Try.underlying26 (hval 0 26 v0 rfl rfl)
  have k0 := h0
  have lt0 : ∀ x ∈ p0, x.block < W.heap.size := by obtain ⟨m, hm⟩ := k0; exact DataW.trod_lt m _ _ _ hm
  obtain ⟨K, hR, hL⟩ : ∃ K : Nat → KeyV, RawK W a0 len0 K ∧ Loose W len0 K := by
    obtain ⟨fuel, hf⟩ := h0
    exact keys_of_trod hf
  obtain ⟨s, rfl, rfl, rfl, ws⟩ := open_string Try.underlying9 (hval 1 9 v1 rfl rfl) h1
  obtain ⟨j, rfl, rfl, rfl, wj⟩ := open_int Try.underlying3 (hval 2 3 v2 rfl rfl) h2
  clear hA0 hval0
  refine (walk a0 len0 cap0 K s j W hR hL).mono fun e W' ⟨he, bel⟩ => ?_
  subst he
  exact ⟨_, rfl, _, _, _, [], _, [], hW', trodAll_mk1 (shut_bool Try.underlying4 _), (trodAll_cons_mk (Below.trod laidOut (by kernel_rfl) (of_decide_eq_true (by kernel_rfl)) k0 bel lt0) (trodAll_cons_mk (shut_string Try.underlying9 ws) (trodAll_cons_mk (shut_int Try.underlying3 wj) trodAll_mk0))), rfl, bel.frame _, fun h => by cases h⟩

theorem over : Rows.fnFindIsFirstMatchWhereverOneKeyIsPutInRow.holds Try.pinned (OpenSpec.ofChange Rows.fnFindIsFirstMatchWhereverOneKeyIsPutInSpec) :=
  OpenClaim.holds_of_wide 4 Try.f4 rfl rfl rfl rfl rfl rfl rfl ⟨rfl, rfl, rfl, rfl, rfl⟩ rfl rfl rfl rfl rfl (by kernel_rfl) Try.func4 (by kernel_rfl)
    (of_decide_eq_true (by kernel_rfl)) (by unfold Func.isWrapper; first | (rw [if_pos (by decide +kernel)]; kernel_rfl) | (rw [if_neg (by decide +kernel)]; exact ⟨rfl, rfl⟩))
    (fun os started H enc _ => lifted os started H enc)

/-- ████ THE STATEMENT ████ -/
theorem proved : Rows.FnFindIsFirstMatchWhereverOneKeyIsPutInSaid := over
#print axioms proved
end Go.Proofs.Qxb6619353a.fnFindIsFirstMatchWhereverOneKeyIsPutIn
