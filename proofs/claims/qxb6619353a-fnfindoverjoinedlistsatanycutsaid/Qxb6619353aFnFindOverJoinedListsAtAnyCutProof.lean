/-
  THE PROOF OF 'Rows.FnFindOverJoinedListsAtAnyCutSaid'. The frame ('lifted', 'over') after the kit's own shells, typed for a slice of slices; the walks are mine.
-/
import Derived.Test.Qxb6619353aRows
import Derived.Test.Qxb6619353aOpenKeys
import Derived.WalkKit
import Derived.ProofKit
import Derived.OpenShut
import Derived.ShutString
import Derived.ChangeOld
import Derived.Below
namespace Go.Proofs.Qxb6619353a.fnFindOverJoinedListsAtAnyCut
open Go.ChangeShapes Go.WideShapes Go.ChangeAt Go.RowKit
open Go.ChangeMaps (open_string shut_string)
set_option linter.unusedVariables false

set_option maxRecDepth 100000 in
set_option maxHeartbeats 4000000 in
theorem walk5 (ko : Option Addr) (n cap : Nat) (K : Nat → KeyV) (ko' : Option Addr) (m cap' : Nat) (K' : Nat → KeyV) (s : ByteArray) (w : World) (hR : RawK w ko n K) (hL : Loose w n K) (hR' : RawK w ko' m K') (hL' : Loose w m K') :
    Calls Try.prog 5 #[.slice ko n cap, .slice ko' m cap', .string s] w fun e w' => e = .returned (.bool true) ∧ Below w.heap.size w w' := by
  have HW : Hid (Calls Try.prog 12 #[.slice ko n cap, .slice ko' m cap', .string s] w (WeakB w (Bound2 K n K' m s))) := bytes12_weak ko n cap K ko' m cap' K' s w hR hR'
  have HR : Hid (RawK w ko n K) := hR
  have HL : Hid (Loose w n K) := hL
  have HR' : Hid (RawK w ko' m K') := hR'
  have HL' : Hid (Loose w m K') := hL'
  clear hR hL hR' hL'
  go_enter Try.func5, Try.ntmps5
  go_wp2_with fail
  refine HW.out.mono ?_
  rintro e w' ⟨b, rfl, rfl, hb⟩
  cases b with
  | false =>
    clear hb
    go_wp2
    go_ret
    exact ⟨rfl, Below.refl _ _⟩
  | true =>
    obtain ⟨hn, hs, hS, hS'⟩ := hb rfl
    have HS : Hid (Short K n) := hS
    have HS' : Hid (Short K' m) := hS'
    have HK : Hid (Keys w ko n K) := HL.out.keys HR.out hS
    have HK' : Hid (Keys w ko' m K') := HL'.out.keys HR'.out hS'
    clear hS hS' hb HW
    have d0 : decide (1048576 < (s.size : Int)) = false := decide_eq_false (by omega)
    go_wp2
    go_loop [7, 8] (fun t i => ∃ (k : Nat) (z : Int), k ≤ n ∧ i = .int .i64 k ∧ t = .int .i64 z ∧ 0 ≤ z ∧ z ≤ 1048576) (fun _ i => n - (intOf i).toNat)
    case atStart => exact ⟨0, s.size, by omega, rfl, rfl, by omega, by omega⟩
    case round =>
      obtain ⟨k, z, hk, rfl, rfl, hz0, hz1⟩ := hrel
      by_cases hkn : k < n
      · obtain ⟨b, off, rfl, cz⟩ := HR.out.at hkn
        have hLk := HS.out k hkn
        generalize (K k).l = L at cz hLk
        by_cases ht : z + (24 + L) ≤ 1048576
        · go_wp2
          go_round
          case rel => exact ⟨k + 1, z + (24 + L), by omega, by go_num, rfl, by omega, by omega⟩
          case measure => simp [intOf]; omega
        · go_wp2
          go_ret
          exact ⟨rfl, Below.refl _ _⟩
      · go_wp2
        go_loop [7, 9] (fun t i => ∃ (k : Nat) (z : Int), k ≤ m ∧ i = .int .i64 k ∧ t = .int .i64 z ∧ 0 ≤ z ∧ z ≤ 1048576) (fun _ i => m - (intOf i).toNat)
        case atStart => exact ⟨0, z, by omega, rfl, rfl, by omega, by omega⟩
        case round =>
          obtain ⟨k', z', hk', rfl, rfl, hz0', hz1'⟩ := hrel
          by_cases hkm : k' < m
          · obtain ⟨b, off, rfl, cz⟩ := HR'.out.at hkm
            have hLk := HS'.out k' hkm
            generalize (K' k').l = L at cz hLk
            by_cases ht : z' + (24 + L) ≤ 1048576
            · go_wp2
              go_round
              case rel => exact ⟨k' + 1, z' + (24 + L), by omega, by go_num, rfl, by omega, by omega⟩
              case measure => simp [intOf]; omega
            · go_wp2
              go_ret
              exact ⟨rfl, Below.refl _ _⟩
          · have hmk := run_make_row' (P := Try.prog) 26 22 (.slice none 0 0) 24 Try.underlying26 Try.info22 rfl .i64 .i64 (n + m) (by omega) (by omega)
            rw [show (((n + m : Nat)) : Int) = (n : Int) + (m : Int) from by omega] at hmk
            go_wp2
            clear hmk
            obtain ⟨V, hV⟩ : ∃ V, V = joinK K n K' := ⟨_, rfl⟩
            have HVe : Hid (V = joinK K n K') := hV
            clear hV
            have HI0 : Hid ((w.alloc (.cells (madeCells #[.slice none 0 0] (n + m)) 22)).rowIs w.heap.size 22 (n + m) (insF V 0)) := ins_made w (n + m) V
            go_loopw [11] (fun i wr => ∃ q : Nat, q ≤ n ∧ i = .int .i64 q ∧ Hid (Below w.heap.size w wr) ∧ Hid (wr.rowIs w.heap.size 22 (n + m) (insF V q))) (fun i _ => n - (intOf i).toNat)
            case atStart => exact ⟨0, by omega, rfl, (Below.refl _ _).alloc (Nat.le_refl _) _, HI0⟩
            case round =>
              obtain ⟨q, hq, rfl, HBq, HIq⟩ := hrel
              clear HI0
              by_cases hqn : q < n
              · obtain ⟨b, off, rfl, cz, hbw⟩ := HK.out.at hqn
                rw [← HBq.out.cell (p := ⟨b, off + q, none⟩) hbw] at cz
                have hfr := HIq.out.frozen q
                have hcg := HIq.out.cell (i := q) (by omega)
                have HVq : Hid (V q = K q) := by rw [HVe.out]; exact joinK_lt hqn
                go_wp2
                go_roundw
                case rel => exact ⟨q + 1, by omega, by go_num, HBq.out.setCell (Nat.le_refl _) _, ins_set HIq.out _ HVq.out⟩
                case measure => simp [intOf]; omega
              · obtain rfl : q = n := by omega
                obtain ⟨w3, hw3⟩ : ∃ w3, w3 = wr := ⟨_, rfl⟩
                subst hw3
                go_wp2
                go_loopw [12] (fun i wr => ∃ t : Nat, t ≤ m ∧ i = .int .i64 t ∧ Hid (Below w.heap.size w wr) ∧ Hid (wr.rowIs w.heap.size 22 (q + m) (insF V (q + t)))) (fun i _ => m - (intOf i).toNat)
                case atStart => exact ⟨0, by omega, rfl, HBq, HIq⟩
                case round =>
                  obtain ⟨t, ht, rfl, HBt, HIt⟩ := hrel
                  clear HBq HIq
                  by_cases htm : t < m
                  · obtain ⟨b, off, rfl, cz, hbw⟩ := HK'.out.at htm
                    rw [← HBt.out.cell (p := ⟨b, off + t, none⟩) hbw] at cz
                    have hfr := HIt.out.frozen (q + t)
                    have hcg := HIt.out.cell (i := q + t) (by omega)
                    have HVt : Hid (V (q + t) = K' t) := by rw [HVe.out]; exact joinK_ge
                    go_wp2
                    go_roundw
                    case rel => exact ⟨t + 1, by omega, by go_num, HBt.out.setCell (Nat.le_refl _) _, ins_set HIt.out _ HVt.out⟩
                    case measure => simp [intOf]; omega
                  · obtain rfl : t = m := by omega
                    have HKV : Hid (Keys wr (some ⟨w.heap.size, 0, none⟩) (q + t) V) := by
                      refine ins_keys HIt.out fun i hi => ?_
                      rw [HVe.out]
                      unfold joinK
                      split
                      · exact (HK.out.1 i (by omega)).below HBt.out
                      · exact (HK'.out.1 (i - q) (by omega)).below HBt.out
                    go_wp2_with fail
                    refine (objFind_any (some ⟨w.heap.size, 0, none⟩) (q + t) (q + t) V s wr (by omega) HKV.out).mono ?_
                    rintro e w5 ⟨r, rfl, hr, hB5⟩
                    have HF : Hid (First (fun i => keyEq (V i).ys s) (q + t) r) := hr
                    have HB5 : Hid (Below w.heap.size w w5) := HBt.out.trans (hB5.mono HBt.out.size)
                    clear hr hB5 HKV HIt HBt
                    go_wp2_with fail
                    refine (objFind_any ko q cap K s w5 (by omega) (HK.out.below HB5.out)).mono ?_
                    rintro e w6 ⟨ra, rfl, hra, hB6⟩
                    have HFa : Hid (First (fun i => keyEq (K i).ys s) q ra) := hra
                    have HB6 : Hid (Below w.heap.size w w6) := HB5.out.trans (hB6.mono HB5.out.size)
                    obtain ⟨a1, a2⟩ := hra.bd
                    clear hra hB6 HB5
                    go_wp2_with fail
                    refine (objFind_any ko' t cap' K' s w6 (by omega) (HK'.out.below HB6.out)).mono ?_
                    rintro e w7 ⟨rb, rfl, hrb, hB7⟩
                    have HFb : Hid (First (fun i => keyEq (K' i).ys s) t rb) := hrb
                    have HB7 : Hid (Below w.heap.size w w7) := HB6.out.trans (hB7.mono HB6.out.size)
                    obtain ⟨b1, b2⟩ := hrb.bd
                    clear hrb hB7 HB6
                    have HJ : Hid (r = if ra ≠ -1 then ra else if rb ≠ -1 then q + rb else -1) := by
                      refine HF.out.uniq (first_join HFa.out HFb.out (fun i hi => ?_) (fun i hi => ?_))
                      · show keyEq (V i).ys s = keyEq (K i).ys s
                        rw [HVe.out, joinK_lt hi]
                      · show keyEq (V (q + i)).ys s = keyEq (K' i).ys s
                        rw [HVe.out, joinK_ge]
                    clear HF HVe
                    go_wp2_with fail
                    refine (hasKey_any ko q cap K s w7 (by omega) hs (HK.out.below HB7.out)).mono ?_
                    rintro e w8 ⟨rfl, hB8⟩
                    have HB8 : Hid (Below w.heap.size w w8) := HB7.out.trans (hB8.mono HB7.out.size)
                    clear hB8 HB7
                    rw [HFa.out.any]
                    by_cases hra : ra = -1
                    · have HJ2 : Hid (r = if rb ≠ -1 then q + rb else -1) := by
                        have := HJ.out
                        rw [if_neg (by omega)] at this
                        exact this
                      subst hra
                      rw [show ((-1 : Int) != -1) = false from rfl]
                      go_wp2_with fail
                      refine (hasKey_any ko' t cap' K' s w8 (by omega) hs (HK'.out.below HB8.out)).mono ?_
                      rintro e w9 ⟨rfl, hB9⟩
                      have HB9 : Hid (Below w.heap.size w w9) := HB8.out.trans (hB9.mono HB8.out.size)
                      clear hB9
                      rw [HFb.out.any]
                      by_cases hrb : rb = -1
                      · have e1 : r = -1 := by rw [HJ2.out, if_neg (by omega)]
                        subst e1
                        subst hrb
                        rw [show ((-1 : Int) != -1) = false from rfl]
                        go_wp2
                        go_ret
                        exact ⟨rfl, HB9.out⟩
                      · have e1 : r = q + rb := by rw [HJ2.out, if_pos hrb]
                        subst e1
                        have x1 : (rb != -1) = true := by simpa using hrb
                        have x2 : (((q : Int) + rb) != -1) = true := by simp; omega
                        rw [x1]
                        clear hrb
                        go_wp2
                        go_ret
                        exact ⟨rfl, HB9.out⟩
                    · have e1 : r = ra := by rw [HJ.out, if_pos hra]
                      subst e1
                      have x1 : (r != -1) = true := by simpa using hra
                      rw [x1]
                      clear hra
                      go_wp2
                      go_ret
                      exact ⟨rfl, HB8.out⟩

theorem own : ownKnob Try.prog.godebug = none := by kernel_rfl
theorem laidOut : laidOutB Try.prog = true := by kernel_rfl

set_option maxRecDepth 100000 in
theorem lifted (os : Os) (started : os.Started) (H : Type) (enc : TypeId × Value → H) :
    ReturnsInHanded {} Try.checked os 5 .any (Rows.fnFindOverJoinedListsAtAnyCutSpec.pre6 enc Try.prog Try.f5 Rows.fnFindOverJoinedListsAtAnyCutRow.domain false) (Rows.fnFindOverJoinedListsAtAnyCutSpec.post enc Try.prog Try.f5 false true false false) := by
  refine returnsInHanded_of_change (C := Try.checked) own started (by kernel_rfl) Try.func5
    (ChangeSpec.witness6 (enc := enc) (C := Try.checked) false ⟨#[], #[.slice none 0 0, .slice none 0 0, .string ByteArray.empty], []⟩ 8 (by kernel_rfl) (by kernel_rfl) (by kernel_rfl) (by kernel_rfl)) ?_
  intro W base args ds gs before hval0 hW hcnd _
  have hval : ∀ (j : Nat) t v, Try.f5.params[j]? = some t → args[j]? = some v → Value.okWide Try.prog W .any base t v := hval0
  have hW' := hW
  obtain ⟨p, q, hA0, hV, rfl, hfz, hnd⟩ := hW
  have hA : DataW.TrodAll enc Try.prog W 0 (fun _ => true) true Try.f5.params.toList args.toList ds p := hA0
  rw [Try.params5] at hA hval
  obtain ⟨v0, vs0, d0, ds0, p0, q0, hargs, rfl, rfl, h0, r0⟩ := trodAll_cons hA
  obtain ⟨v1, vs1, d1, ds1, p1, q1, rfl, rfl, rfl, h1, r1⟩ := trodAll_cons r0
  obtain ⟨v2, vs2, d2, ds2, p2, q2, rfl, rfl, rfl, h2, r2⟩ := trodAll_cons r1
  obtain ⟨rfl, rfl, rfl⟩ := trodAll_nil r2
  obtain rfl : args = #[v0, v1, v2] := by cases args; simp_all
  obtain ⟨rfl, rfl⟩ := trodVars_none hV
  obtain ⟨a0, len0, cap0, rfl⟩ := okWide_slice Try.underlying26 (hval 0 26 v0 rfl rfl)
  have k0 := h0
  have lt0 : ∀ x ∈ p0, x.block < W.heap.size := by obtain ⟨m, hm⟩ := k0; exact DataW.trod_lt m _ _ _ hm
  obtain ⟨K, hR, hL⟩ : ∃ K : Nat → KeyV, RawK W a0 len0 K ∧ Loose W len0 K := by
    obtain ⟨fuel, hf⟩ := h0
    exact keys_of_trod hf
  obtain ⟨a1, len1, cap1, rfl⟩ := okWide_slice Try.underlying26 (hval 1 26 v1 rfl rfl)
  have k1 := h1
  have lt1 : ∀ x ∈ p1, x.block < W.heap.size := by obtain ⟨m, hm⟩ := k1; exact DataW.trod_lt m _ _ _ hm
  obtain ⟨K', hR', hL'⟩ : ∃ K' : Nat → KeyV, RawK W a1 len1 K' ∧ Loose W len1 K' := by
    obtain ⟨fuel, hf⟩ := h1
    exact keys_of_trod hf
  obtain ⟨s, rfl, rfl, rfl, ws⟩ := open_string Try.underlying9 (hval 2 9 v2 rfl rfl) h2
  clear hA0 hval0
  refine (walk5 a0 len0 cap0 K a1 len1 cap1 K' s W hR hL hR' hL').mono fun e W' ⟨he, bel⟩ => ?_
  subst he
  exact ⟨_, rfl, _, _, _, [], _, [], hW', trodAll_mk1 (shut_bool Try.underlying4 _), (trodAll_cons_mk (Below.trod laidOut (by kernel_rfl) (of_decide_eq_true (by kernel_rfl)) k0 bel lt0) (trodAll_cons_mk (Below.trod laidOut (by kernel_rfl) (of_decide_eq_true (by kernel_rfl)) k1 bel lt1) (trodAll_cons_mk (shut_string Try.underlying9 ws) trodAll_mk0))), rfl, bel.frame _, fun h => by cases h⟩

theorem over : Rows.fnFindOverJoinedListsAtAnyCutRow.holds Try.pinned (OpenSpec.ofChange Rows.fnFindOverJoinedListsAtAnyCutSpec) :=
  OpenClaim.holds_of_wide 5 Try.f5 rfl rfl rfl rfl rfl rfl rfl ⟨rfl, rfl, rfl, rfl, rfl⟩ rfl rfl rfl rfl rfl (by kernel_rfl) Try.func5 (by kernel_rfl)
    (of_decide_eq_true (by kernel_rfl)) (by unfold Func.isWrapper; first | (rw [if_pos (by decide +kernel)]; kernel_rfl) | (rw [if_neg (by decide +kernel)]; exact ⟨rfl, rfl⟩))
    (fun os started H enc _ => lifted os started H enc)

/-- ████ THE STATEMENT ████ -/
theorem proved : Rows.FnFindOverJoinedListsAtAnyCutSaid := over
#print axioms proved
end Go.Proofs.Qxb6619353a.fnFindOverJoinedListsAtAnyCut
