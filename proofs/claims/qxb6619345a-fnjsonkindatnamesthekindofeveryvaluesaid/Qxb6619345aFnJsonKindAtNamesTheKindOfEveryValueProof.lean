/-
  THE PROOF OF 'Rows.FnJsonKindAtNamesTheKindOfEveryValueSaid'. The frame ('lifted', 'over') was written by the kit's program off the guide's print; the walks are mine.
-/
import Derived.Test.Qxb6619345aRows
import Derived.Test.Qxb6619345aKindWalks
import Derived.WalkKit
import Derived.WalkSpells
import Derived.WalkLawsBesides
import Derived.ProofKit
import Derived.OpenShut
import Derived.ShutString
namespace Go.Proofs.Qxb6619345a.fnJsonKindAtNamesTheKindOfEveryValue
open Go.ChangeShapes Go.WideShapes Go.ChangeAt Go.RowKit
open Go.ChangeMaps (open_string shut_string)
set_option linter.unusedVariables false      -- a walk need not use every 'w<i>' (that an integer argument fits its kind)


theorem bytes15_yes (s : ByteArray) (h : s.size ≤ 1048576) (w : World) :
    Calls Try.prog 15 #[.string s] w fun e w' => e = .returned (.bool true) ∧ w = w' := by
  go_enter Try.func15, Try.ntmps15
  go_wp2
  go_ret
  exact ⟨rfl, rfl⟩
theorem bytes15_no (s : ByteArray) (h : 1048576 < s.size) (w : World) :
    Calls Try.prog 15 #[.string s] w fun e w' => e = .returned (.bool false) ∧ w = w' := by
  go_enter Try.func15, Try.ntmps15
  go_wp2
  go_ret
  exact ⟨rfl, rfl⟩

/-! ### jsonKindAt, byte by byte -/
theorem kindAt_str (w : World) : Calls Try.prog 14 #[.int .u8 34] w fun e w' => e = .returned (.string ⟨#[97, 32, 115, 116, 114, 105, 110, 103]⟩) ∧ w = w' := by
  go_enter Try.func14, Try.ntmps14
  go_wp2
  go_ret
  exact ⟨rfl, rfl⟩
theorem kindAt_minus (w : World) : Calls Try.prog 14 #[.int .u8 45] w fun e w' => e = .returned (.string ⟨#[97, 32, 110, 117, 109, 98, 101, 114]⟩) ∧ w = w' := by
  go_enter Try.func14, Try.ntmps14
  go_wp2
  go_ret
  exact ⟨rfl, rfl⟩
theorem kindAt_num (c : Int) (h1 : 48 ≤ c) (h2 : c ≤ 57) (w : World) : Calls Try.prog 14 #[.int .u8 c] w fun e w' => e = .returned (.string ⟨#[97, 32, 110, 117, 109, 98, 101, 114]⟩) ∧ w = w' := by
  go_enter Try.func14, Try.ntmps14
  go_wp2
  go_ret
  exact ⟨rfl, rfl⟩
theorem kindAt_arr (w : World) : Calls Try.prog 14 #[.int .u8 91] w fun e w' => e = .returned (.string ⟨#[97, 110, 32, 97, 114, 114, 97, 121]⟩) ∧ w = w' := by
  go_enter Try.func14, Try.ntmps14
  go_wp2
  go_ret
  exact ⟨rfl, rfl⟩
theorem kindAt_obj (w : World) : Calls Try.prog 14 #[.int .u8 123] w fun e w' => e = .returned (.string ⟨#[97, 110, 32, 111, 98, 106, 101, 99, 116]⟩) ∧ w = w' := by
  go_enter Try.func14, Try.ntmps14
  go_wp2
  go_ret
  exact ⟨rfl, rfl⟩
theorem kindAt_t (w : World) : Calls Try.prog 14 #[.int .u8 116] w fun e w' => e = .returned (.string ⟨#[116, 114, 117, 101, 32, 111, 114, 32, 102, 97, 108, 115, 101]⟩) ∧ w = w' := by
  go_enter Try.func14, Try.ntmps14
  go_wp2
  go_ret
  exact ⟨rfl, rfl⟩
theorem kindAt_f (w : World) : Calls Try.prog 14 #[.int .u8 102] w fun e w' => e = .returned (.string ⟨#[116, 114, 117, 101, 32, 111, 114, 32, 102, 97, 108, 115, 101]⟩) ∧ w = w' := by
  go_enter Try.func14, Try.ntmps14
  go_wp2
  go_ret
  exact ⟨rfl, rfl⟩
theorem kindAt_n (w : World) : Calls Try.prog 14 #[.int .u8 110] w fun e w' => e = .returned (.string ⟨#[110, 117, 108, 108]⟩) ∧ w = w' := by
  go_enter Try.func14, Try.ntmps14
  go_wp2
  go_ret
  exact ⟨rfl, rfl⟩
/-- The bytes at which no value begins. -/
def noKind (c : Int) : Prop := c ≠ 34 ∧ c ≠ 45 ∧ ¬ (48 ≤ c ∧ c ≤ 57) ∧ c ≠ 91 ∧ c ≠ 123 ∧ c ≠ 116 ∧ c ≠ 102 ∧ c ≠ 110
theorem kindAt_none (c : Int) (h : noKind c) (w : World) : Calls Try.prog 14 #[.int .u8 c] w fun e w' => e = .returned (.string ⟨#[]⟩) ∧ w = w' := by
  obtain ⟨h1, h2, h3, h4, h5, h6, h7, h8⟩ := h
  have g1 : (c == 34) = false := beq_eq_false_iff_ne.2 h1
  have g2 : (c == 45) = false := beq_eq_false_iff_ne.2 h2
  have g4 : (c == 91) = false := beq_eq_false_iff_ne.2 h4
  have g5 : (c == 123) = false := beq_eq_false_iff_ne.2 h5
  have g6 : (c == 116) = false := beq_eq_false_iff_ne.2 h6
  have g7 : (c == 102) = false := beq_eq_false_iff_ne.2 h7
  have g8 : (c == 110) = false := beq_eq_false_iff_ne.2 h8
  clear h1 h2 h4 h5 h6 h7 h8
  by_cases k : c < 48
  · clear h3
    have g3 : decide (48 ≤ c) = false := decide_eq_false (by omega)
    go_enter Try.func14, Try.ntmps14
    go_wp2
    go_ret
    exact ⟨rfl, rfl⟩
  · have g3 : decide (c ≤ 57) = false := decide_eq_false (by omega)
    have g3' : 57 < c := by omega
    clear h3
    go_enter Try.func14, Try.ntmps14
    go_wp2
    go_ret
    exact ⟨rfl, rfl⟩

/-! ### 'string([]byte{x})', 'string([]byte{x, y})' -/
theorem conv1 (W : World) (g : Nat) (hg : W.heap.size = g) (x : Int) :
    (convert 22 9 (.slice (some ⟨g, 0, none⟩) 1 1)).run Try.prog (W.alloc (.cells #[.int .u8 x] 5)) = .ok (.string (strOfNums [x])) (W.alloc (.cells #[.int .u8 x] 5)) := by
  subst hg
  refine run_convert_bytes_arg _ 22 5 Try.underlying22 Try.underlying5 _ 0 1 1 [x] rfl (fun i hi => ?_) 9 Try.underlying9
  match i, hi with
  | 0, _ => simp only [World.cell?]; rw [heap_alloc_new]; rfl
theorem conv2 (W : World) (g : Nat) (hg : W.heap.size = g) (x y : Int) :
    (convert 22 9 (.slice (some ⟨g, 0, none⟩) 2 2)).run Try.prog (W.alloc (.cells #[.int .u8 x, .int .u8 y] 5)) = .ok (.string (strOfNums [x, y])) (W.alloc (.cells #[.int .u8 x, .int .u8 y] 5)) := by
  subst hg
  refine run_convert_bytes_arg _ 22 5 Try.underlying22 Try.underlying5 _ 0 2 2 [x, y] rfl (fun i hi => ?_) 9 Try.underlying9
  match i, hi with
  | 0, _ => simp only [World.cell?]; rw [heap_alloc_new]; rfl
  | 1, _ => simp only [World.cell?]; rw [heap_alloc_new]; rfl
theorem str_at (xs : List Int) (i : Nat) (h : i < (strOfNums xs).size) (hx : ∀ x ∈ xs, 0 ≤ x ∧ x ≤ 255) : (((strOfNums xs)[i]'h).toNat : Int) = xs.getD i 0 := by
  have hi : i < xs.length := by rw [strOfNums_size] at h; exact h
  have e : (strOfNums xs)[i]'h = UInt8.ofNat (xs[i]).toNat := by
    show (strOfNums xs).data[i] = _
    simp [strOfNums]
  rw [e, List.getD_eq_getElem?_getD, List.getElem?_eq_getElem hi]
  have := hx xs[i] (List.getElem_mem _)
  simp only [Option.getD_some, UInt8.toNat_ofNat']
  omega

/-- What zzKindOf may name at the first byte c, one kind by name. -/
theorem kind_only {c : Int} {k kX : ByteArray} (h : KindIs c k) (hTF : (c = 116 ∨ c = 102) → kTF = kX) (hNull : c = 110 → kNull = kX) (hNum : (c = 45 ∨ (48 ≤ c ∧ c ≤ 57)) → kNum = kX) (hStr : c = 34 → kStr = kX)
    (hArr : c = 91 → kArr = kX) (hObj : c = 123 → kObj = kX) : k = ⟨#[]⟩ ∨ k = kX := by
  rcases h with rfl | ⟨rfl, e⟩ | ⟨rfl, e⟩ | ⟨rfl, e⟩ | ⟨rfl, e⟩ | ⟨rfl, e⟩ | ⟨rfl, e⟩
  · exact .inl rfl
  · exact .inr (hTF e)
  · exact .inr (hNull e)
  · exact .inr (hNum e)
  · exact .inr (hStr e)
  · exact .inr (hArr e)
  · exact .inr (hObj e)

set_option maxRecDepth 100000 in
set_option maxHeartbeats 1000000 in
theorem walk6_str (s : ByteArray) (hs : s.size ≤ 1048576) (hp : 0 < s.size) (hc : ((s[0]'hp).toNat : Int) = 34) (w : World) :
    Calls Try.prog 6 #[.string s] w fun e w' => e = .returned (.bool true) ∧ Grown w w' := by
  have d0 : decide (1048576 < (s.size : Int)) = false := decide_eq_false (by omega)
  have d1 : ((s.size : Int) == 0) = false := beq_eq_false_iff_ne.2 (by omega)
  have HK : Hid (Calls Try.prog 16 #[.string s] w (Named w 34)) := kindOf_weak s 34 hs hp hc w
  have hq := conv2 w w.heap.size rfl 34 34
  have z := strOfNums_size [34, 34]
  have z0 := str_at [34, 34] 0 (by rw [z]; decide) (by decide)
  have z1 := str_at [34, 34] 1 (by rw [z]; decide) (by decide)
  generalize strOfNums [34, 34] = q at hq z z0 z1
  have HE : Hid (Calls Try.prog 16 #[.string q] (w.alloc (.cells #[.int .u8 34, .int .u8 34] 5)) fun e w' => e = .returned (.string ⟨#[97, 32, 115, 116, 114, 105, 110, 103]⟩) ∧ w.alloc (.cells #[.int .u8 34, .int .u8 34] 5) = w') := kindOf_str q z z0 z1 _
  clear z z0 z1
  go_enter Try.func6, Try.ntmps6
  go_wp2_with (first | (go_at_call 15; refine (bytes15_yes _ hs _).mono ?_; rintro e w' ⟨rfl, rfl⟩) | (go_at_call 14; refine (kindAt_str _).mono ?_; rintro e w' ⟨rfl, rfl⟩))
  refine HK.out.mono ?_
  rintro e w' ⟨k, rfl, rfl, hk⟩
  rcases kind_only (kX := ⟨#[97, 32, 115, 116, 114, 105, 110, 103]⟩) hk (by decide) (by decide) (by decide) (by decide) (by decide) (by decide) with rfl | rfl
  all_goals
    clear hk
    go_wp2_with fail
    refine HE.out.mono ?_
    rintro e w' ⟨rfl, rfl⟩
    go_wp2
    go_ret
    exact ⟨rfl, (Grown.refl _).alloc _ _⟩

set_option maxRecDepth 100000 in
set_option maxHeartbeats 1000000 in
theorem walk6_arr (s : ByteArray) (hs : s.size ≤ 1048576) (hp : 0 < s.size) (hc : ((s[0]'hp).toNat : Int) = 91) (w : World) :
    Calls Try.prog 6 #[.string s] w fun e w' => e = .returned (.bool true) ∧ Grown w w' := by
  have d0 : decide (1048576 < (s.size : Int)) = false := decide_eq_false (by omega)
  have d1 : ((s.size : Int) == 0) = false := beq_eq_false_iff_ne.2 (by omega)
  have HK : Hid (Calls Try.prog 16 #[.string s] w (Named w 91)) := kindOf_weak s 91 hs hp hc w
  have hq := conv2 w w.heap.size rfl 91 93
  have z := strOfNums_size [91, 93]
  have z0 := str_at [91, 93] 0 (by rw [z]; decide) (by decide)
  have z1 := str_at [91, 93] 1 (by rw [z]; decide) (by decide)
  generalize strOfNums [91, 93] = q at hq z z0 z1
  have HE : Hid (Calls Try.prog 16 #[.string q] (w.alloc (.cells #[.int .u8 91, .int .u8 93] 5)) fun e w' => e = .returned (.string ⟨#[97, 110, 32, 97, 114, 114, 97, 121]⟩) ∧ w.alloc (.cells #[.int .u8 91, .int .u8 93] 5) = w') := kindOf_arr q z z0 z1 _
  clear z z0 z1
  go_enter Try.func6, Try.ntmps6
  go_wp2_with (first | (go_at_call 15; refine (bytes15_yes _ hs _).mono ?_; rintro e w' ⟨rfl, rfl⟩) | (go_at_call 14; refine (kindAt_arr _).mono ?_; rintro e w' ⟨rfl, rfl⟩))
  refine HK.out.mono ?_
  rintro e w' ⟨k, rfl, rfl, hk⟩
  rcases kind_only (kX := ⟨#[97, 110, 32, 97, 114, 114, 97, 121]⟩) hk (by decide) (by decide) (by decide) (by decide) (by decide) (by decide) with rfl | rfl
  all_goals
    clear hk
    go_wp2_with fail
    refine HE.out.mono ?_
    rintro e w' ⟨rfl, rfl⟩
    go_wp2
    go_ret
    exact ⟨rfl, (Grown.refl _).alloc _ _⟩

set_option maxRecDepth 100000 in
set_option maxHeartbeats 1000000 in
theorem walk6_obj (s : ByteArray) (hs : s.size ≤ 1048576) (hp : 0 < s.size) (hc : ((s[0]'hp).toNat : Int) = 123) (w : World) :
    Calls Try.prog 6 #[.string s] w fun e w' => e = .returned (.bool true) ∧ Grown w w' := by
  have d0 : decide (1048576 < (s.size : Int)) = false := decide_eq_false (by omega)
  have d1 : ((s.size : Int) == 0) = false := beq_eq_false_iff_ne.2 (by omega)
  have HK : Hid (Calls Try.prog 16 #[.string s] w (Named w 123)) := kindOf_weak s 123 hs hp hc w
  have hq := conv2 w w.heap.size rfl 123 125
  have z := strOfNums_size [123, 125]
  have z0 := str_at [123, 125] 0 (by rw [z]; decide) (by decide)
  have z1 := str_at [123, 125] 1 (by rw [z]; decide) (by decide)
  generalize strOfNums [123, 125] = q at hq z z0 z1
  have HE : Hid (Calls Try.prog 16 #[.string q] (w.alloc (.cells #[.int .u8 123, .int .u8 125] 5)) fun e w' => e = .returned (.string ⟨#[97, 110, 32, 111, 98, 106, 101, 99, 116]⟩) ∧ w.alloc (.cells #[.int .u8 123, .int .u8 125] 5) = w') := kindOf_obj q z z0 z1 _
  clear z z0 z1
  go_enter Try.func6, Try.ntmps6
  go_wp2_with (first | (go_at_call 15; refine (bytes15_yes _ hs _).mono ?_; rintro e w' ⟨rfl, rfl⟩) | (go_at_call 14; refine (kindAt_obj _).mono ?_; rintro e w' ⟨rfl, rfl⟩))
  refine HK.out.mono ?_
  rintro e w' ⟨k, rfl, rfl, hk⟩
  rcases kind_only (kX := ⟨#[97, 110, 32, 111, 98, 106, 101, 99, 116]⟩) hk (by decide) (by decide) (by decide) (by decide) (by decide) (by decide) with rfl | rfl
  all_goals
    clear hk
    go_wp2_with fail
    refine HE.out.mono ?_
    rintro e w' ⟨rfl, rfl⟩
    go_wp2
    go_ret
    exact ⟨rfl, (Grown.refl _).alloc _ _⟩

set_option maxRecDepth 100000 in
set_option maxHeartbeats 1000000 in
theorem walk6_minus (s : ByteArray) (hs : s.size ≤ 1048576) (hp : 0 < s.size) (hc : ((s[0]'hp).toNat : Int) = 45) (w : World) :
    Calls Try.prog 6 #[.string s] w fun e w' => e = .returned (.bool true) ∧ Grown w w' := by
  have d0 : decide (1048576 < (s.size : Int)) = false := decide_eq_false (by omega)
  have d1 : ((s.size : Int) == 0) = false := beq_eq_false_iff_ne.2 (by omega)
  have HK : Hid (Calls Try.prog 16 #[.string s] w (Named w 45)) := kindOf_weak s 45 hs hp hc w
  have hq1 := conv1 w w.heap.size rfl 45
  have y := strOfNums_size [45]
  have y0 := str_at [45] 0 (by rw [y]; decide) (by decide)
  generalize strOfNums [45] = q1 at hq1 y y0
  have H1 : Hid (Calls Try.prog 17 #[.string q1] (w.alloc (.cells #[.int .u8 45] 5)) fun e w' => e = .returned (.bool false) ∧ w.alloc (.cells #[.int .u8 45] 5) = w') := isNumber_minus q1 y y0 _
  clear y y0
  have hq := conv2 (w.alloc (.cells #[.int .u8 45] 5)) (w.heap.size + 1) (by simp) 45 49
  have z := strOfNums_size [45, 49]
  have z0 := str_at [45, 49] 0 (by rw [z]; decide) (by decide)
  have z1 := str_at [45, 49] 1 (by rw [z]; decide) (by decide)
  generalize strOfNums [45, 49] = q at hq z z0 z1
  have HE : Hid (Calls Try.prog 16 #[.string q] ((w.alloc (.cells #[.int .u8 45] 5)).alloc (.cells #[.int .u8 45, .int .u8 49] 5)) fun e w' => e = .returned (.string ⟨#[97, 32, 110, 117, 109, 98, 101, 114]⟩) ∧ (w.alloc (.cells #[.int .u8 45] 5)).alloc (.cells #[.int .u8 45, .int .u8 49] 5) = w') :=
    kindOf_num q 45 (by rw [z]; decide) z0 (.inl rfl) _ (isNumber_minus1 q z z0 z1 _)
  clear z z0 z1
  go_enter Try.func6, Try.ntmps6
  go_wp2_with (first | (go_at_call 15; refine (bytes15_yes _ hs _).mono ?_; rintro e w' ⟨rfl, rfl⟩) | (go_at_call 14; refine (kindAt_minus _).mono ?_; rintro e w' ⟨rfl, rfl⟩))
  refine HK.out.mono ?_
  rintro e w' ⟨k, rfl, rfl, hk⟩
  rcases kind_only (kX := ⟨#[97, 32, 110, 117, 109, 98, 101, 114]⟩) hk (by decide) (by decide) (fun _ => rfl) (by decide) (by decide) (by decide) with rfl | rfl
  all_goals
    clear hk
    go_wp2_with fail
    refine H1.out.mono ?_
    rintro e w' ⟨rfl, rfl⟩
    go_wp2_with fail
    refine HE.out.mono ?_
    rintro e w' ⟨rfl, rfl⟩
    go_wp2
    go_ret
    exact ⟨rfl, ((Grown.refl _).alloc _ _).alloc _ _⟩

theorem isNumber_one (s : ByteArray) (c : Int) (hs : s.size = 1) (h0 : ((s[0]'(by omega)).toNat : Int) = c) (h1 : 48 ≤ c) (h2 : c ≤ 57) (w : World) :
    Calls Try.prog 17 #[.string s] w fun e w' => e = .returned (.bool true) ∧ w = w' := by
  by_cases h : c = 48
  · subst h
    exact isNumber_zero s hs h0 w
  · exact isNumber_pos s c hs h0 (by omega) h2 w

set_option maxRecDepth 100000 in
set_option maxHeartbeats 1000000 in
theorem walk6_num (s : ByteArray) (c : Int) (hs : s.size ≤ 1048576) (hp : 0 < s.size) (hc : ((s[0]'hp).toNat : Int) = c) (h1 : 48 ≤ c) (h2 : c ≤ 57) (w : World) :
    Calls Try.prog 6 #[.string s] w fun e w' => e = .returned (.bool true) ∧ Grown w w' := by
  have d0 : decide (1048576 < (s.size : Int)) = false := decide_eq_false (by omega)
  have d1 : ((s.size : Int) == 0) = false := beq_eq_false_iff_ne.2 (by omega)
  have HK : Hid (Calls Try.prog 16 #[.string s] w (Named w c)) := kindOf_weak s c hs hp hc w
  have hq := conv1 w w.heap.size rfl c
  have z := strOfNums_size [c]
  have z0 := str_at [c] 0 (by rw [z]; exact Nat.one_pos) (by intro x hx; simp at hx; omega)
  rw [show [c].getD 0 0 = c from rfl] at z0
  generalize strOfNums [c] = q at hq z z0
  have H1 : Hid (Calls Try.prog 17 #[.string q] (w.alloc (.cells #[.int .u8 c] 5)) fun e w' => e = .returned (.bool true) ∧ w.alloc (.cells #[.int .u8 c] 5) = w') := isNumber_one q c z z0 h1 h2 _
  have HE : Hid (Calls Try.prog 16 #[.string q] (w.alloc (.cells #[.int .u8 c] 5)) fun e w' => e = .returned (.string ⟨#[97, 32, 110, 117, 109, 98, 101, 114]⟩) ∧ w.alloc (.cells #[.int .u8 c] 5) = w') :=
    kindOf_num q c (by rw [z]; exact Nat.one_pos) z0 (.inr ⟨h1, h2⟩) _ (isNumber_one q c z z0 h1 h2 _)
  clear z z0
  go_enter Try.func6, Try.ntmps6
  go_wp2_with (first | (go_at_call 15; refine (bytes15_yes _ hs _).mono ?_; rintro e w' ⟨rfl, rfl⟩) | (go_at_call 14; refine (kindAt_num c h1 h2 _).mono ?_; rintro e w' ⟨rfl, rfl⟩))
  refine HK.out.mono ?_
  rintro e w' ⟨k, rfl, rfl, hk⟩
  rcases kind_only (kX := ⟨#[97, 32, 110, 117, 109, 98, 101, 114]⟩) hk (fun e => by omega) (fun e => by omega) (fun _ => rfl) (fun e => by omega) (fun e => by omega) (fun e => by omega) with rfl | rfl
  all_goals
    clear hk
    go_wp2_with fail
    refine H1.out.mono ?_
    rintro e w' ⟨rfl, rfl⟩
    go_wp2_with fail
    refine HE.out.mono ?_
    rintro e w' ⟨rfl, rfl⟩
    go_wp2
    go_ret
    exact ⟨rfl, (Grown.refl _).alloc _ _⟩

theorem litAt_t (w : World) : Calls Try.prog 13 #[.int .u8 116] w fun e w' => e = .returned (.string ⟨#[116, 114, 117, 101]⟩) ∧ w = w' := by
  go_enter Try.func13, Try.ntmps13
  go_wp2
  go_ret
  exact ⟨rfl, rfl⟩
theorem kindOf_t (w : World) : Calls Try.prog 16 #[.string ⟨#[116, 114, 117, 101]⟩] w fun e w' => e = .returned (.string ⟨#[116, 114, 117, 101, 32, 111, 114, 32, 102, 97, 108, 115, 101]⟩) ∧ w = w' := by
  go_enter Try.func16, Try.ntmps16
  go_wp2
  go_ret
  exact ⟨rfl, rfl⟩
set_option maxRecDepth 100000 in
set_option maxHeartbeats 1000000 in
theorem walk6_t (s : ByteArray) (hs : s.size ≤ 1048576) (hp : 0 < s.size) (hc : ((s[0]'hp).toNat : Int) = 116) (w : World) :
    Calls Try.prog 6 #[.string s] w fun e w' => e = .returned (.bool true) ∧ Grown w w' := by
  have d0 : decide (1048576 < (s.size : Int)) = false := decide_eq_false (by omega)
  have d1 : ((s.size : Int) == 0) = false := beq_eq_false_iff_ne.2 (by omega)
  have HK : Hid (Calls Try.prog 16 #[.string s] w (Named w 116)) := kindOf_weak s 116 hs hp hc w
  go_enter Try.func6, Try.ntmps6
  go_wp2_with (first | (go_at_call 15; refine (bytes15_yes _ hs _).mono ?_; rintro e w' ⟨rfl, rfl⟩) | (go_at_call 14; refine (kindAt_t _).mono ?_; rintro e w' ⟨rfl, rfl⟩))
  refine HK.out.mono ?_
  rintro e w' ⟨k, rfl, rfl, hk⟩
  rcases kind_only (kX := ⟨#[116, 114, 117, 101, 32, 111, 114, 32, 102, 97, 108, 115, 101]⟩) hk (by decide) (by decide) (by decide) (by decide) (by decide) (by decide) with rfl | rfl
  all_goals
    clear hk
    go_wp2_with (go_at_call 13; refine (litAt_t _).mono ?_; rintro e w' ⟨rfl, rfl⟩)
    refine (kindOf_t _).mono ?_
    rintro e w' ⟨rfl, rfl⟩
    go_wp2
    go_ret
    exact ⟨rfl, Grown.refl _⟩

theorem litAt_f (w : World) : Calls Try.prog 13 #[.int .u8 102] w fun e w' => e = .returned (.string ⟨#[102, 97, 108, 115, 101]⟩) ∧ w = w' := by
  go_enter Try.func13, Try.ntmps13
  go_wp2
  go_ret
  exact ⟨rfl, rfl⟩
theorem kindOf_f (w : World) : Calls Try.prog 16 #[.string ⟨#[102, 97, 108, 115, 101]⟩] w fun e w' => e = .returned (.string ⟨#[116, 114, 117, 101, 32, 111, 114, 32, 102, 97, 108, 115, 101]⟩) ∧ w = w' := by
  go_enter Try.func16, Try.ntmps16
  go_wp2
  go_ret
  exact ⟨rfl, rfl⟩
set_option maxRecDepth 100000 in
set_option maxHeartbeats 1000000 in
theorem walk6_f (s : ByteArray) (hs : s.size ≤ 1048576) (hp : 0 < s.size) (hc : ((s[0]'hp).toNat : Int) = 102) (w : World) :
    Calls Try.prog 6 #[.string s] w fun e w' => e = .returned (.bool true) ∧ Grown w w' := by
  have d0 : decide (1048576 < (s.size : Int)) = false := decide_eq_false (by omega)
  have d1 : ((s.size : Int) == 0) = false := beq_eq_false_iff_ne.2 (by omega)
  have HK : Hid (Calls Try.prog 16 #[.string s] w (Named w 102)) := kindOf_weak s 102 hs hp hc w
  go_enter Try.func6, Try.ntmps6
  go_wp2_with (first | (go_at_call 15; refine (bytes15_yes _ hs _).mono ?_; rintro e w' ⟨rfl, rfl⟩) | (go_at_call 14; refine (kindAt_f _).mono ?_; rintro e w' ⟨rfl, rfl⟩))
  refine HK.out.mono ?_
  rintro e w' ⟨k, rfl, rfl, hk⟩
  rcases kind_only (kX := ⟨#[116, 114, 117, 101, 32, 111, 114, 32, 102, 97, 108, 115, 101]⟩) hk (by decide) (by decide) (by decide) (by decide) (by decide) (by decide) with rfl | rfl
  all_goals
    clear hk
    go_wp2_with (go_at_call 13; refine (litAt_f _).mono ?_; rintro e w' ⟨rfl, rfl⟩)
    refine (kindOf_f _).mono ?_
    rintro e w' ⟨rfl, rfl⟩
    go_wp2
    go_ret
    exact ⟨rfl, Grown.refl _⟩

theorem litAt_n (w : World) : Calls Try.prog 13 #[.int .u8 110] w fun e w' => e = .returned (.string ⟨#[110, 117, 108, 108]⟩) ∧ w = w' := by
  go_enter Try.func13, Try.ntmps13
  go_wp2
  go_ret
  exact ⟨rfl, rfl⟩
theorem kindOf_n (w : World) : Calls Try.prog 16 #[.string ⟨#[110, 117, 108, 108]⟩] w fun e w' => e = .returned (.string ⟨#[110, 117, 108, 108]⟩) ∧ w = w' := by
  go_enter Try.func16, Try.ntmps16
  go_wp2
  go_ret
  exact ⟨rfl, rfl⟩
set_option maxRecDepth 100000 in
set_option maxHeartbeats 1000000 in
theorem walk6_n (s : ByteArray) (hs : s.size ≤ 1048576) (hp : 0 < s.size) (hc : ((s[0]'hp).toNat : Int) = 110) (w : World) :
    Calls Try.prog 6 #[.string s] w fun e w' => e = .returned (.bool true) ∧ Grown w w' := by
  have d0 : decide (1048576 < (s.size : Int)) = false := decide_eq_false (by omega)
  have d1 : ((s.size : Int) == 0) = false := beq_eq_false_iff_ne.2 (by omega)
  have HK : Hid (Calls Try.prog 16 #[.string s] w (Named w 110)) := kindOf_weak s 110 hs hp hc w
  go_enter Try.func6, Try.ntmps6
  go_wp2_with (first | (go_at_call 15; refine (bytes15_yes _ hs _).mono ?_; rintro e w' ⟨rfl, rfl⟩) | (go_at_call 14; refine (kindAt_n _).mono ?_; rintro e w' ⟨rfl, rfl⟩))
  refine HK.out.mono ?_
  rintro e w' ⟨k, rfl, rfl, hk⟩
  rcases kind_only (kX := ⟨#[110, 117, 108, 108]⟩) hk (by decide) (by decide) (by decide) (by decide) (by decide) (by decide) with rfl | rfl
  all_goals
    clear hk
    go_wp2_with (go_at_call 13; refine (litAt_n _).mono ?_; rintro e w' ⟨rfl, rfl⟩)
    refine (kindOf_n _).mono ?_
    rintro e w' ⟨rfl, rfl⟩
    go_wp2
    go_ret
    exact ⟨rfl, Grown.refl _⟩

set_option maxRecDepth 100000 in
set_option maxHeartbeats 1000000 in
theorem walk6_none (s : ByteArray) (c : Int) (hs : s.size ≤ 1048576) (hp : 0 < s.size) (hc : ((s[0]'hp).toNat : Int) = c) (h : noKind c) (w : World) :
    Calls Try.prog 6 #[.string s] w fun e w' => e = .returned (.bool true) ∧ Grown w w' := by
  have d0 : decide (1048576 < (s.size : Int)) = false := decide_eq_false (by omega)
  have d1 : ((s.size : Int) == 0) = false := beq_eq_false_iff_ne.2 (by omega)
  have HK : Hid (Calls Try.prog 16 #[.string s] w (Named w c)) := kindOf_weak s c hs hp hc w
  have HN : Hid (noKind c) := h
  clear h
  go_enter Try.func6, Try.ntmps6
  go_wp2_with (first | (go_at_call 15; refine (bytes15_yes _ hs _).mono ?_; rintro e w' ⟨rfl, rfl⟩) | (go_at_call 14; refine (kindAt_none c HN.out _).mono ?_; rintro e w' ⟨rfl, rfl⟩))
  refine HK.out.mono ?_
  rintro e w' ⟨k, rfl, rfl, hk⟩
  obtain ⟨n1, n2, n3, n4, n5, n6, n7, n8⟩ := HN.out
  rcases kind_only (kX := ⟨#[]⟩) hk (fun e => by omega) (fun e => by omega) (fun e => by omega) (fun e => by omega) (fun e => by omega) (fun e => by omega) with rfl | rfl
  all_goals
    clear hk n1 n2 n3 n4 n5 n6 n7 n8
    go_wp2
    go_ret
    exact ⟨rfl, Grown.refl _⟩

theorem walk6_empty (s : ByteArray) (hp : s.size = 0) (w : World) :
    Calls Try.prog 6 #[.string s] w fun e w' => e = .returned (.bool true) ∧ Grown w w' := by
  have d1 : (s.size : Int) ≤ 0 := by omega
  have d0 : s.size ≤ 1048576 := by omega
  clear hp
  go_enter Try.func6, Try.ntmps6
  go_wp2_with (go_at_call 15; refine (bytes15_yes _ d0 _).mono ?_; rintro e w' ⟨rfl, rfl⟩)
  go_ret
  exact ⟨rfl, Grown.refl _⟩
theorem walk6_long (s : ByteArray) (hp : 1048576 < s.size) (w : World) :
    Calls Try.prog 6 #[.string s] w fun e w' => e = .returned (.bool true) ∧ Grown w w' := by
  go_enter Try.func6, Try.ntmps6
  go_wp2_with (go_at_call 15; refine (bytes15_no _ hp _).mono ?_; rintro e w' ⟨rfl, rfl⟩)
  go_ret
  exact ⟨rfl, Grown.refl _⟩

theorem walk6 (s : ByteArray) (w : World) :
    Calls Try.prog 6 #[.string s] w fun e w' => e = .returned (.bool true) ∧ Grown w w' := by
  by_cases hs : s.size ≤ 1048576
  · by_cases hp : 0 < s.size
    · obtain ⟨c, hc⟩ : ∃ c, ((s[0]'hp).toNat : Int) = c := ⟨_, rfl⟩
      by_cases h1 : c = 34
      · subst h1; exact walk6_str s hs hp hc w
      by_cases h2 : c = 45
      · subst h2; exact walk6_minus s hs hp hc w
      by_cases h3 : 48 ≤ c ∧ c ≤ 57
      · exact walk6_num s c hs hp hc h3.1 h3.2 w
      by_cases h4 : c = 91
      · subst h4; exact walk6_arr s hs hp hc w
      by_cases h5 : c = 123
      · subst h5; exact walk6_obj s hs hp hc w
      by_cases h6 : c = 116
      · subst h6; exact walk6_t s hs hp hc w
      by_cases h7 : c = 102
      · subst h7; exact walk6_f s hs hp hc w
      by_cases h8 : c = 110
      · subst h8; exact walk6_n s hs hp hc w
      exact walk6_none s c hs hp hc ⟨h1, h2, h3, h4, h5, h6, h7, h8⟩ w
    · exact walk6_empty s (by omega) w
  · exact walk6_long s (by omega) w

theorem own : ownKnob Try.prog.godebug = none := by kernel_rfl

/-! ### STEP 1: THE WALK: the Go text returns true. 'Grown w w'': the world has at most new blocks (Derived/RowKit3.lean). Part the cases AHEAD of 'go_enter' where a test parts the walk; take each callee by a contract of your own. -/
theorem walk (a0 : ByteArray) (w0 : a0.size ≤ maxLen) (w : World) :
    Calls Try.prog 6 #[.string a0] w fun e w' => e = .returned (.bool true) ∧ Grown w w' := by
  exact walk6 a0 w

/-! ### THE ROW's STEP: WRITTEN OUT: LEAVE IT -/
set_option maxRecDepth 100000 in
theorem lifted (os : Os) (started : os.Started) (H : Type) (enc : TypeId × Value → H) :
    ReturnsInHanded {} Try.checked os 6 .any (Rows.fnJsonKindAtNamesTheKindOfEveryValueSpec.pre6 enc Try.prog Try.f6 Rows.fnJsonKindAtNamesTheKindOfEveryValueRow.domain false) (Rows.fnJsonKindAtNamesTheKindOfEveryValueSpec.post enc Try.prog Try.f6 false true false false) := by
  refine returnsInHanded_of_change (C := Try.checked) own started (by kernel_rfl) Try.func6
    (ChangeSpec.witness6 (enc := enc) (C := Try.checked) false ⟨#[], #[.string ByteArray.empty], []⟩ 8 (by kernel_rfl) (by kernel_rfl) (by kernel_rfl) (by kernel_rfl)) ?_
  intro W base args ds gs before hval0 hW hcnd _
  have hval : ∀ (j : Nat) t v, Try.f6.params[j]? = some t → args[j]? = some v → Value.okWide Try.prog W .any base t v := hval0
  have hW' := hW
  obtain ⟨p, q, hA0, hV, rfl, hfz, hnd⟩ := hW
  have hA : DataW.TrodAll enc Try.prog W 0 (fun _ => true) true Try.f6.params.toList args.toList ds p := hA0
  rw [Try.params6] at hA hval
  obtain ⟨v0, vs0, d0, ds0, p0, q0, hargs, rfl, rfl, h0, r0⟩ := trodAll_cons hA
  obtain ⟨rfl, rfl, rfl⟩ := trodAll_nil r0
  obtain rfl : args = #[v0] := by cases args; simp_all
  obtain ⟨rfl, rfl⟩ := trodVars_none hV
  obtain ⟨a0, rfl, rfl, rfl, w0⟩ := open_string Try.underlying9 (hval 0 9 v0 rfl rfl) h0
  clear hA0 hval0
  simp only [List.append_nil] at hW'
  refine (walk a0 w0 W).mono fun e W' ⟨he, hg⟩ => ?_
  subst he
  exact ⟨_, rfl, post_of_same (pa := []) (pv := []) hW' (fun _ _ _ => (trodAll_cons_mk (shut_bool Try.underlying4 _) trodAll_mk0)) (fun sp _ => (trodAll_cons_mk (shut_string Try.underlying9 w0) trodAll_mk0)) (fun _ _ => rfl) rfl
    (hg.frame _) hg.2.1 (ok_one (by kernel_rfl) rfl (okWide_bool_mk Try.underlying4 _))⟩

theorem over : Rows.fnJsonKindAtNamesTheKindOfEveryValueRow.holds Try.pinned (OpenSpec.ofChange Rows.fnJsonKindAtNamesTheKindOfEveryValueSpec) :=
  OpenClaim.holds_of_wide 6 Try.f6 rfl rfl rfl rfl rfl rfl rfl ⟨rfl, rfl, rfl, rfl, rfl⟩ rfl rfl rfl rfl rfl (by kernel_rfl) Try.func6 (by kernel_rfl)
    (of_decide_eq_true (by kernel_rfl)) (by unfold Func.isWrapper; first | (rw [if_pos (by decide +kernel)]; kernel_rfl) | (rw [if_neg (by decide +kernel)]; exact ⟨rfl, rfl⟩))
    (fun os started H enc _ => lifted os started H enc)

/-- ████ THE STATEMENT ████ -/
theorem proved : Rows.FnJsonKindAtNamesTheKindOfEveryValueSaid :=
  over
#print axioms proved
end Go.Proofs.Qxb6619345a.fnJsonKindAtNamesTheKindOfEveryValue
