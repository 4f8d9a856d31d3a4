/-
  THE PROOF OF 'Rows.FnLiteralAtRoundTripsTheWordsSaid'. The frame ('lifted', 'over') was written by the kit's program off the guide's print; the walks are mine.
-/
import Derived.Test.Qxb6619345aRows
import Derived.WalkKit
import Derived.WalkSpells
import Derived.WalkLawsBesides
import Derived.ProofKit
import Derived.OpenShut
import Derived.ShutString
namespace Go.Proofs.Qxb6619345a.fnLiteralAtRoundTripsTheWords
open Go.ChangeShapes Go.WideShapes Go.ChangeAt Go.RowKit
open Go.ChangeMaps (open_string shut_string)
set_option linter.unusedVariables false      -- a walk need not use every 'w<i>' (that an integer argument fits its kind)


theorem head_of {s : ByteArray} (hp : 0 < s.size) {c : UInt8} {l : List UInt8} (h : s.toList = c :: l) : ((s[0]'hp).toNat : Int) = c.toNat := by
  rw [ByteArray.toList_eq] at h
  have : s.data.toList[0]'(by simpa using hp) = c := by simp [h]
  rw [← this]
  rfl
/-- A string whose first byte is another's is not that word. -/
theorem other_word {s : ByteArray} (hp : 0 < s.size) {c : Int} (hc : ((s[0]'hp).toNat : Int) = c) (x : UInt8) (l : List UInt8) (h : c ≠ x.toNat) : (s.toList == x :: l) = false ∧ ((x :: l) == s.toList) = false := by
  have hn : s.toList ≠ x :: l := fun e => h (by rw [← hc]; exact head_of hp e)
  exact ⟨beq_eq_false_iff_ne.2 hn, beq_eq_false_iff_ne.2 (fun e => hn e.symm)⟩
theorem same_word (s : ByteArray) (l : List UInt8) : ((s.toList == l) = true ∧ (l == s.toList) = true) ∨ ((s.toList == l) = false ∧ (l == s.toList) = false) := by
  by_cases h : s.toList = l
  · exact .inl ⟨beq_iff_eq.2 h, beq_iff_eq.2 h.symm⟩
  · exact .inr ⟨beq_eq_false_iff_ne.2 h, beq_eq_false_iff_ne.2 (fun e => h e.symm)⟩
theorem not_empty {s : ByteArray} (hp : 0 < s.size) : s.toList.isEmpty = false ∧ (([] : List UInt8) == s.toList) = false ∧ (s.toList == []) = false := by
  have hn : s.toList ≠ [] := fun e => by
    rw [ByteArray.toList_eq] at e
    have : s.data.toList.length = 0 := by rw [e]; rfl
    simp at this
    have h2 : s.size = 0 := by show s.data.size = 0; rw [this]; rfl
    omega
  exact ⟨by simpa using hn, beq_eq_false_iff_ne.2 (fun e => hn e.symm), beq_eq_false_iff_ne.2 hn⟩

theorem bytes12_yes (s : ByteArray) (h : s.size ≤ 1048576) (w : World) :
    Calls Try.prog 12 #[.string s] w fun e w' => e = .returned (.bool true) ∧ w = w' := by
  go_enter Try.func12, Try.ntmps12
  go_wp2
  go_ret
  exact ⟨rfl, rfl⟩
theorem bytes12_no (s : ByteArray) (h : 1048576 < s.size) (w : World) :
    Calls Try.prog 12 #[.string s] w fun e w' => e = .returned (.bool false) ∧ w = w' := by
  go_enter Try.func12, Try.ntmps12
  go_wp2
  go_ret
  exact ⟨rfl, rfl⟩

set_option maxRecDepth 100000 in
set_option maxHeartbeats 2000000 in
theorem walk5 (s : ByteArray) (hs : s.size ≤ 1048576) (hp : 0 < s.size) (w : World) :
    Calls Try.prog 5 #[.string s] w fun e w' => e = .returned (.bool true) ∧ Grown w w' := by
  have d0 : decide (1048576 < (s.size : Int)) = false := decide_eq_false (by omega)
  have d1 : ((s.size : Int) == 0) = false := beq_eq_false_iff_ne.2 (by omega)
  obtain ⟨m0, m1, m2⟩ := not_empty hp
  obtain ⟨c, hc⟩ : ∃ c, ((s[0]'hp).toNat : Int) = c := ⟨_, rfl⟩
  have nT := other_word hp hc 116 [114, 117, 101]
  have nF := other_word hp hc 102 [97, 108, 115, 101]
  have nN := other_word hp hc 110 [117, 108, 108]
  rcases (show c = 116 ∨ c = 102 ∨ c = 110 ∨ (c ≠ 116 ∧ c ≠ 102 ∧ c ≠ 110) from by omega) with h | h | h | ⟨h1, h2, h3⟩
  · subst h
    obtain ⟨f1, f2⟩ := nF (by decide)
    obtain ⟨n1, n2⟩ := nN (by decide)
    clear nT nF nN
    rcases same_word s [116, 114, 117, 101] with ⟨t1, t2⟩ | ⟨t1, t2⟩
    all_goals
      go_enter Try.func5, Try.ntmps5
      go_wp2
      go_ret
      exact ⟨rfl, Grown.refl _⟩
  · subst h
    obtain ⟨f1, f2⟩ := nT (by decide)
    obtain ⟨n1, n2⟩ := nN (by decide)
    clear nT nF nN
    rcases same_word s [102, 97, 108, 115, 101] with ⟨t1, t2⟩ | ⟨t1, t2⟩
    all_goals
      go_enter Try.func5, Try.ntmps5
      go_wp2
      go_ret
      exact ⟨rfl, Grown.refl _⟩
  · subst h
    obtain ⟨f1, f2⟩ := nT (by decide)
    obtain ⟨n1, n2⟩ := nF (by decide)
    clear nT nF nN
    rcases same_word s [110, 117, 108, 108] with ⟨t1, t2⟩ | ⟨t1, t2⟩
    all_goals
      go_enter Try.func5, Try.ntmps5
      go_wp2
      go_ret
      exact ⟨rfl, Grown.refl _⟩
  · obtain ⟨t1, t2⟩ := nT h1
    obtain ⟨f1, f2⟩ := nF h2
    obtain ⟨n1, n2⟩ := nN h3
    clear nT nF nN
    have k1 : (c == 116) = false := beq_eq_false_iff_ne.2 h1
    have k2 : (c == 102) = false := beq_eq_false_iff_ne.2 h2
    have k3 : (c == 110) = false := beq_eq_false_iff_ne.2 h3
    clear h1 h2 h3
    go_enter Try.func5, Try.ntmps5
    go_wp2
    all_goals
      go_ret
      exact ⟨rfl, Grown.refl _⟩

theorem walk5_empty (s : ByteArray) (hp : s.size = 0) (w : World) :
    Calls Try.prog 5 #[.string s] w fun e w' => e = .returned (.bool true) ∧ Grown w w' := by
  have d1 : (s.size : Int) ≤ 0 := by omega
  have d0 : s.size ≤ 1048576 := by omega
  clear hp
  go_enter Try.func5, Try.ntmps5
  go_wp2_with (go_at_call 12; refine (bytes12_yes _ d0 _).mono ?_; rintro e w' ⟨rfl, rfl⟩)
  go_ret
  exact ⟨rfl, Grown.refl _⟩
theorem walk5_long (s : ByteArray) (hp : 1048576 < s.size) (w : World) :
    Calls Try.prog 5 #[.string s] w fun e w' => e = .returned (.bool true) ∧ Grown w w' := by
  go_enter Try.func5, Try.ntmps5
  go_wp2_with (go_at_call 12; refine (bytes12_no _ hp _).mono ?_; rintro e w' ⟨rfl, rfl⟩)
  go_ret
  exact ⟨rfl, Grown.refl _⟩

theorem own : ownKnob Try.prog.godebug = none := by kernel_rfl

/-! ### STEP 1: THE WALK: the Go text returns true. 'Grown w w'': the world has at most new blocks (Derived/RowKit3.lean). Part the cases AHEAD of 'go_enter' where a test parts the walk; take each callee by a contract of your own. -/
theorem walk (a0 : ByteArray) (w0 : a0.size ≤ maxLen) (w : World) :
    Calls Try.prog 5 #[.string a0] w fun e w' => e = .returned (.bool true) ∧ Grown w w' := by
  by_cases hl : a0.size ≤ 1048576
  · by_cases hp : 0 < a0.size
    · exact walk5 a0 hl hp w
    · exact walk5_empty a0 (by omega) w
  · exact walk5_long a0 (by omega) w

/-! ### THE ROW's STEP: WRITTEN OUT: LEAVE IT -/
set_option maxRecDepth 100000 in
theorem lifted (os : Os) (started : os.Started) (H : Type) (enc : TypeId × Value → H) :
    ReturnsInHanded {} Try.checked os 5 .any (Rows.fnLiteralAtRoundTripsTheWordsSpec.pre6 enc Try.prog Try.f5 Rows.fnLiteralAtRoundTripsTheWordsRow.domain false) (Rows.fnLiteralAtRoundTripsTheWordsSpec.post enc Try.prog Try.f5 false true false false) := by
  refine returnsInHanded_of_change (C := Try.checked) own started (by kernel_rfl) Try.func5
    (ChangeSpec.witness6 (enc := enc) (C := Try.checked) false ⟨#[], #[.string ByteArray.empty], []⟩ 8 (by kernel_rfl) (by kernel_rfl) (by kernel_rfl) (by kernel_rfl)) ?_
  intro W base args ds gs before hval0 hW hcnd _
  have hval : ∀ (j : Nat) t v, Try.f5.params[j]? = some t → args[j]? = some v → Value.okWide Try.prog W .any base t v := hval0
  have hW' := hW
  obtain ⟨p, q, hA0, hV, rfl, hfz, hnd⟩ := hW
  have hA : DataW.TrodAll enc Try.prog W 0 (fun _ => true) true Try.f5.params.toList args.toList ds p := hA0
  rw [Try.params5] at hA hval
  obtain ⟨v0, vs0, d0, ds0, p0, q0, hargs, rfl, rfl, h0, r0⟩ := trodAll_cons hA
  obtain ⟨rfl, rfl, rfl⟩ := trodAll_nil r0
  obtain rfl : args = #[v0] := by cases args; simp_all
  obtain ⟨rfl, rfl⟩ := trodVars_none hV
  obtain ⟨a0, rfl, rfl, rfl, w0⟩ := open_string Try.underlying9 (hval 0 9 v0 rfl rfl) h0
  clear hA0 hval0
  simp only [List.append_nil] at hW'
  refine (walk a0 w0 W).mono fun e W' ⟨he, hg⟩ => ?_
  subst he
  exact ⟨_, rfl, post_of_same (pa := []) (pv := []) hW' (fun _ _ _ => (trodAll_cons_mk (shut_bool Try.underlying4 _) trodAll_mk0)) (fun sp _ => (trodAll_cons_mk (shut_string Try.underlying9 w0) trodAll_mk0)) (fun _ _ => rfl) rfl
    (hg.frame _) hg.2.1 (ok_one (by kernel_rfl) rfl (okWide_bool_mk Try.underlying4 _))⟩

theorem over : Rows.fnLiteralAtRoundTripsTheWordsRow.holds Try.pinned (OpenSpec.ofChange Rows.fnLiteralAtRoundTripsTheWordsSpec) :=
  OpenClaim.holds_of_wide 5 Try.f5 rfl rfl rfl rfl rfl rfl rfl ⟨rfl, rfl, rfl, rfl, rfl⟩ rfl rfl rfl rfl rfl (by kernel_rfl) Try.func5 (by kernel_rfl)
    (of_decide_eq_true (by kernel_rfl)) (by unfold Func.isWrapper; first | (rw [if_pos (by decide +kernel)]; kernel_rfl) | (rw [if_neg (by decide +kernel)]; exact ⟨rfl, rfl⟩))
    (fun os started H enc _ => lifted os started H enc)

/-- ████ THE STATEMENT ████ -/
theorem proved : Rows.FnLiteralAtRoundTripsTheWordsSaid :=
  over
#print axioms proved
end Go.Proofs.Qxb6619345a.fnLiteralAtRoundTripsTheWords
