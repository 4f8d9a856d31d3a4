/-
  eqBytesString (17), (*Object).find (16), ZZObjectFind (10): what each returns, in the words of FindLaw.
-/
import Derived.Test.Qxb6619353aBytes
import Derived.Test.Qxb6619353aFindLaw
import Derived.Laws.BytesArg
import Derived.Laws.IdiomStrings
namespace Go.Proofs.Qxb6619353a
open Go.RowKit
open Go.WideShapes (add_plain)

/-- A key as a slice of bytes: its address, length and capacity, and its bytes. -/
structure KeyV where
  a : Option Addr
  l : Nat
  c : Nat
  ys : List Int
/-- It lies in the world w so. -/
def KeyV.ok (k : KeyV) (w : World) : Prop := k.ys.length = k.l ∧ Bts w k.a k.ys ∧ Byt k.ys ∧ k.l ≤ 1048576
theorem KeyV.ok.below {k : KeyV} {w w' : World} (h : k.ok w) (hb : Below w.heap.size w w') : k.ok w' := ⟨h.1, h.2.1.below hb, h.2.2.1, h.2.2.2⟩

/-- The bytes as numbers. -/
def numsOf (s : ByteArray) : List Int := s.data.toList.map fun b => (b.toNat : Int)
/-- Does the key read as the string? -/
def keyEq (ys : List Int) (s : ByteArray) : Bool := decide (ys = numsOf s)

theorem byt_cons {y : Int} {ys : List Int} (h : Byt (y :: ys)) : (0 ≤ y ∧ y ≤ 255) ∧ Byt ys := ⟨by simpa using h 0, fun i => by simpa using h (i + 1)⟩
theorem ofNat_inj {l : List UInt8} : ∀ {ys : List Int}, Byt ys → ((ys.map fun n => UInt8.ofNat n.toNat) = l ↔ ys = l.map fun b => (b.toNat : Int)) := by
  induction l with
  | nil => intro ys _; simp
  | cons b l ih =>
    intro ys h
    cases ys with
    | nil => simp
    | cons y ys =>
      obtain ⟨hy, hys⟩ := byt_cons h
      simp only [List.map_cons, List.cons.injEq]
      rw [ih hys]
      have e : UInt8.ofNat y.toNat = b ↔ y = (b.toNat : Int) := by
        constructor
        · rintro rfl
          simp only [UInt8.toNat_ofNat']
          omega
        · intro e
          rw [e]
          simp
      rw [e]
theorem keyEq_str {ys : List Int} {s : ByteArray} (h : Byt ys) : ((strOfNums ys).toList == s.toList) = keyEq ys s := by
  rw [ByteArray.toList_eq, ByteArray.toList_eq, strOfNums_data]
  unfold keyEq numsOf
  rw [Bool.eq_iff_iff, beq_iff_eq, decide_eq_true_iff]
  exact ofNat_inj h

theorem conv_key {k : KeyV} {w : World} (h : k.ok w) : (convert 22 9 (.slice k.a k.l k.c)).run Try.prog w = .ok (.string (strOfNums k.ys)) w := by
  obtain ⟨hl, hb, hz, _⟩ := h
  cases ha : k.a with
  | none =>
    have hy : k.ys = [] := by
      rcases hb with h | ⟨b, off, e, _⟩
      · exact h
      · rw [ha] at e; cases e
    rw [run_convert_bytes_nil w 22 5 Try.underlying22 Try.underlying5 _ _ 9 Try.underlying9, hy]
    rfl
  | some x =>
    have := run_convert_bytes_back (P := Try.prog) w 22 9 5 x k.c (k.ys.map fun n => UInt8.ofNat n.toNat) Try.underlying22 Try.underlying5 Try.underlying9 (fun j hj => by
      rw [List.length_map] at hj
      rcases hb with h | ⟨b, off, e, hc⟩
      · rw [h] at hj; simp at hj
      · rw [ha] at e
        obtain rfl := Option.some.inj e
        rw [add_plain, hc j hj]
        congr 2
        rw [List.getElem_map, List.getD_eq_getElem?_getD, List.getElem?_eq_getElem hj]
        have hb := hz j
        rw [List.getD_eq_getElem?_getD, List.getElem?_eq_getElem hj] at hb
        simp only [Option.getD_some] at hb ⊢
        simp only [UInt8.toNat_ofNat']
        omega)
    rw [List.length_map, hl] at this
    exact this

set_option maxRecDepth 100000 in
set_option maxHeartbeats 1000000 in
theorem find_any (gO gM n : Nat) (K : Nat → KeyV) (s : ByteArray) (w : World) (hn : n ≤ 2097152) (cO : w.cell? ⟨gO, 0, none⟩ = some (.slice (some ⟨gM, 0, none⟩) n n))
    (cM : ∀ i, i < n → w.cell? ⟨gM, i * 3, none⟩ = some (.slice (K i).a (K i).l (K i).c) ∧ w.cell? ⟨gM, i * 3 + 1, none⟩ = some (.slice none 0 0) ∧ w.cell? ⟨gM, i * 3 + 2, none⟩ = some (.bool false))
    (hK : ∀ i, i < n → (K i).ok w) :
    Calls Try.prog 16 #[.pointer (some ⟨gO, 0, none⟩), .string s] w fun e w' => ∃ r : Int, e = .returned (.int .i64 r) ∧ First (fun i => keyEq (K i).ys s) n r ∧ Below w.heap.size w w' := by
  have CM : Hid (∀ i, i < n → w.cell? ⟨gM, i * 3, none⟩ = some (.slice (K i).a (K i).l (K i).c) ∧ w.cell? ⟨gM, i * 3 + 1, none⟩ = some (.slice none 0 0) ∧ w.cell? ⟨gM, i * 3 + 2, none⟩ = some (.bool false)) := cM
  have HK : Hid (∀ i, i < n → (K i).ok w) := hK
  clear cM hK
  go_enter Try.func16, Try.ntmps16
  go_wp2
  go_loopw [12] (fun i wr => ∃ k : Nat, k ≤ n ∧ i = .int .i64 k ∧ Below w.heap.size w wr ∧ Hid (∀ j, j < k → keyEq (K j).ys s = false)) (fun i _ => n - (intOf i).toNat)
  case atStart => exact ⟨0, by omega, rfl, Below.refl _ _, show ∀ j, j < 0 → _ from fun j hj => absurd hj (by omega)⟩
  case round =>
    obtain ⟨k, hk, rfl, hB, HF⟩ := hrel
    by_cases hkn : k < n
    · obtain ⟨c0, c1, c2⟩ := CM.out k hkn
      have b0 := World.block_lt_of_cell? w _ c0
      have e0 := hB.cell (p := ⟨gM, k * 3, none⟩) b0
      have e1 := hB.cell (p := ⟨gM, k * 3 + 1, none⟩) b0
      have e2 := hB.cell (p := ⟨gM, k * 3 + 2, none⟩) b0
      rw [c0] at e0
      rw [c1] at e1
      rw [c2] at e2
      clear c0 c1 c2
      have hok : (K k).ok wr := (HK.out k hkn).below hB
      have hal : Below wr.heap.size wr (wr.alloc (.cells #[.slice (K k).a (K k).l (K k).c, .slice none 0 0, .bool false] 40)) := (Below.refl _ _).alloc (Nat.le_refl _) _
      have hcv := conv_key (hok.below hal)
      have hq := keyEq_str (s := s) hok.2.2.1
      have HB : Hid (Below w.heap.size w wr) := hB
      generalize strOfNums (K k).ys = q at hcv hq
      cases hb : keyEq (K k).ys s with
      | true =>
        have HT : Hid (keyEq (K k).ys s = true) := hb
        rw [hb] at hq
        clear hb hok hal hB
        go_wp2
        go_ret
        exact ⟨k, rfl, .inr ⟨k, hkn, rfl, HT.out, HF.out⟩, HB.out.alloc HB.out.size _⟩
      | false =>
        have HT : Hid (keyEq (K k).ys s = false) := hb
        rw [hb] at hq
        clear hb hok hal hB
        go_wp2
        go_roundw
        case rel =>
          refine ⟨k + 1, by omega, by go_num, HB.out.alloc HB.out.size _, ?_⟩
          show ∀ j, j < k + 1 → _
          intro j hj
          by_cases e : j = k
          · rw [e]; exact HT.out
          · exact HF.out j (by omega)
        case measure => simp [intOf]; omega
    · have HB : Hid (Below w.heap.size w wr) := hB
      clear hB
      go_wp2
      go_ret
      exact ⟨-1, rfl, .inl ⟨rfl, fun i hi => HF.out i (by omega)⟩, HB.out⟩

/-! ### eqBytesString -/
theorem keyEq_len {ys : List Int} {s : ByteArray} (h : ys.length ≠ s.size) : keyEq ys s = false := by
  unfold keyEq
  refine decide_eq_false fun e => h ?_
  rw [e]
  simp [numsOf]
theorem numsOf_at (s : ByteArray) (i : Nat) (h : i < s.size) : (numsOf s).getD i 0 = ((s[i]'h).toNat : Int) := by
  have : i < s.data.toList.length := by simpa using h
  rw [List.getD_eq_getElem?_getD, numsOf, List.getElem?_map, List.getElem?_eq_getElem this]
  rfl
theorem keyEq_no {ys : List Int} {s : ByteArray} {i : Nat} (h : i < s.size) (hne : ys.getD i 0 ≠ ((s[i]'h).toNat : Int)) : keyEq ys s = false := by
  unfold keyEq
  refine decide_eq_false fun e => hne ?_
  rw [e, numsOf_at s i h]
theorem keyEq_yes {ys : List Int} {s : ByteArray} (hl : ys.length = s.size) (h : ∀ i (hi : i < s.size), ys.getD i 0 = ((s[i]'hi).toNat : Int)) : keyEq ys s = true := by
  unfold keyEq
  refine decide_eq_true ?_
  apply List.ext_getElem (by rw [hl]; simp [numsOf])
  intro i h1 h2
  have hi : i < s.size := by omega
  have e := h i hi
  rw [← numsOf_at s i hi] at e
  rw [List.getD_eq_getElem?_getD, List.getElem?_eq_getElem h1, List.getD_eq_getElem?_getD, List.getElem?_eq_getElem h2] at e
  exact e
theorem ret_bool {a b : Bool} (h : a = b) : Ending.returned (.bool a) = .returned (.bool b) := by rw [h]

set_option maxRecDepth 100000 in
set_option maxHeartbeats 1000000 in
theorem eqBytes_any (k : KeyV) (s : ByteArray) (w : World) (hk : k.ok w) (hs : s.size ≤ 1048576) :
    Calls Try.prog 17 #[.slice k.a k.l k.c, .string s] w fun e w' => e = .returned (.bool (keyEq k.ys s)) ∧ Below w.heap.size w w' := by
  obtain ⟨a, l, c, ys⟩ := k
  obtain ⟨hl, hb, hz, hm⟩ := hk
  simp only at hl hb hz hm ⊢
  by_cases hls : l = s.size
  · subst hls
    rcases hb with rfl | ⟨b, off, rfl, hcell⟩
    · have h0 : s.size = 0 := by simpa using hl.symm
      have e : keyEq [] s = true := keyEq_yes hl (fun i hi => by omega)
      rw [e]
      rw [h0]
      clear e hz hm
      go_enter Try.func17, Try.ntmps17
      go_wp2
      refine wp_loop_rounds 1 ?_
      rw [rounds_succ]
      go_wp2
      go_ret
      exact ⟨rfl, Below.refl _ _⟩
    · have HC : Hid (∀ i, i < s.size → w.cell? ⟨b, off + i, none⟩ = some (.int .u8 (ys.getD i 0))) := by rw [← hl]; exact hcell
      have HL : Hid (ys.length = s.size) := hl
      clear hcell hl hz
      go_enter Try.func17, Try.ntmps17
      go_wp2
      go_loopw [5] (fun i wr => ∃ k : Nat, k ≤ s.size ∧ i = .int .i64 k ∧ (∃ d, wr = w.drewN d) ∧ Hid (∀ i (hi : i < s.size), i < k → ys.getD i 0 = ((s[i]'hi).toNat : Int))) (fun i _ => s.size - (intOf i).toNat)
      case atStart => exact ⟨0, by omega, rfl, ⟨0, rfl⟩, fun i hi h => absurd h (by omega)⟩
      case round =>
        obtain ⟨k, hk, rfl, ⟨d, rfl⟩, HE⟩ := hrel
        by_cases hks : k < s.size
        · have cz := HC.out k hks
          by_cases he : ys.getD k 0 = ((s[k]'hks).toNat : Int)
          · rw [he] at cz
            have HE2 : Hid (∀ i (hi : i < s.size), i < k + 1 → ys.getD i 0 = ((s[i]'hi).toNat : Int)) := by
              intro i hi hik
              by_cases e : i = k
              · subst e; exact he
              · exact HE.out i hi (by omega)
            clear he
            go_wp2
            go_quiet (fail)
            go_wp2
            go_roundw
            case rel => exact ⟨k + 1, by omega, by go_num, ⟨_, rfl⟩, HE2⟩
            case measure => simp [intOf]; omega
          · have HN : Hid (keyEq ys s = false) := keyEq_no hks he
            have hne : (ys.getD k 0 != ((s[k]'hks).toNat : Int)) = true := by simpa using he
            generalize ys.getD k 0 = c at cz hne
            clear he
            go_wp2
            go_quiet (fail)
            go_wp2
            go_ret
            exact ⟨ret_bool HN.out.symm, below_drewN (below_drewN (Below.refl _ _) _) _⟩
        · have HY : Hid (keyEq ys s = true) := keyEq_yes HL.out (fun i hi => HE.out i hi (by omega))
          go_wp2
          go_ret
          exact ⟨ret_bool HY.out.symm, below_drewN (Below.refl _ _) _⟩
  · rw [keyEq_len (by rw [hl]; exact hls)]
    have d : ((l : Int) != (s.size : Int)) = true := by simp; omega
    go_enter Try.func17, Try.ntmps17
    go_wp2
    go_ret
    exact ⟨rfl, Below.refl _ _⟩

/-! ### ZZObjectFind -/
theorem Try.info40 : (Try.prog.info? 40).map (fun i => (i.zero, i.size, i.bytes)) = some (some (.agg #[.slice none 0 0, .slice none 0 0, .bool false]), 3, 56) := by kernel_rfl
/-- What make lays for n members. -/
def memCells (n : Nat) : Array Value := madeCells #[.slice none 0 0, .slice none 0 0, .bool false] (n * 3)
theorem run_make_members (n : Nat) (hn : n ≤ 2097152) (w : World) :
    (Instr.makeSlice 36 (.int .i64 (n : Int)) (.int .i64 (n : Int))).run Try.prog w = .ok (.slice (some ⟨w.heap.size, 0, none⟩) n n) (w.alloc (.cells (memCells n) 40)) := by
  obtain ⟨i, hi, hz, hs, hb⟩ := info_parts Try.info40
  have := run_make (P := Try.prog) w 36 40 i _ Try.underlying36 hi hz .i64 .i64 n n (by omega) (by omega) (by rw [hb]; omega) (by omega)
  rw [hs, Int.toNat_natCast] at this
  exact this

/-- The members of which the first k have their key. -/
def memF (K : Nat → KeyV) (k : Nat) (j : Nat) : Value :=
  if j % 3 = 0 then (if j / 3 < k then .slice (K (j / 3)).a (K (j / 3)).l (K (j / 3)).c else .slice none 0 0) else if j % 3 = 1 then .slice none 0 0 else .bool false
theorem mem_made (w : World) (K : Nat → KeyV) (n : Nat) : (w.alloc (.cells (memCells n) 40)).rowIs w.heap.size 40 (n * 3) (memF K 0) := by
  refine ⟨_, heap_alloc_new _ _, size_madeCells _ _, fun i hi => ?_⟩
  unfold memCells madeCells memF
  rw [Array.getElem?_map, Array.getElem?_range, if_pos hi]
  simp only [Option.map_some, Option.some.injEq]
  rcases (show i % 3 = 0 ∨ i % 3 = 1 ∨ i % 3 = 2 from by omega) with h | h | h <;> simp [h]
theorem mem_set {w : World} {g n k : Nat} {K : Nat → KeyV} (h : w.rowIs g 40 (n * 3) (memF K k)) : (w.setCell ⟨g, k * 3, none⟩ (.slice (K k).a (K k).l (K k).c)).rowIs g 40 (n * 3) (memF K (k + 1)) := by
  refine (h.set (k * 3) _).congr fun j hj => ?_
  unfold memF
  by_cases e : j = k * 3
  · subst e
    rw [if_pos rfl, if_pos (by omega), if_pos (by omega), show k * 3 / 3 = k by omega]
  · rw [if_neg e]
    by_cases h0 : j % 3 = 0
    · rw [if_pos h0, if_pos h0]
      by_cases hjk : j / 3 < k
      · rw [if_pos hjk, if_pos (by omega)]
      · rw [if_neg hjk, if_neg (by omega)]
    · rw [if_neg h0, if_neg h0]
theorem mem_cells {w : World} {g n : Nat} {K : Nat → KeyV} (h : w.rowIs g 40 (n * 3) (memF K n)) (i : Nat) (hi : i < n) :
    w.cell? ⟨g, i * 3, none⟩ = some (.slice (K i).a (K i).l (K i).c) ∧ w.cell? ⟨g, i * 3 + 1, none⟩ = some (.slice none 0 0) ∧ w.cell? ⟨g, i * 3 + 2, none⟩ = some (.bool false) := by
  refine ⟨?_, ?_, ?_⟩
  · rw [h.cell (by omega)]
    unfold memF
    rw [if_pos (by omega), if_pos (by omega), show i * 3 / 3 = i by omega]
  · rw [h.cell (by omega)]
    unfold memF
    rw [if_neg (by omega), if_pos (by omega)]
  · rw [h.cell (by omega)]
    unfold memF
    rw [if_neg (by omega), if_neg (by omega)]

/-- A list of keys that a slice leads to. -/
def Keys (w : World) (ko : Option Addr) (n : Nat) (K : Nat → KeyV) : Prop :=
  (∀ i, i < n → (K i).ok w) ∧ (n = 0 ∨ ∃ b off, ko = some ⟨b, off, none⟩ ∧ ∀ i, i < n → w.cell? ⟨b, off + i, none⟩ = some (.slice (K i).a (K i).l (K i).c))
theorem Keys.below {w w' : World} {ko : Option Addr} {n : Nat} {K : Nat → KeyV} (h : Keys w ko n K) (hb : Below w.heap.size w w') : Keys w' ko n K := by
  refine ⟨fun i hi => (h.1 i hi).below hb, ?_⟩
  rcases h.2 with h | ⟨b, off, e, hc⟩
  · exact .inl h
  · refine .inr ⟨b, off, e, fun i hi => ?_⟩
    have := hc i hi
    rw [← this]
    exact hb.cell (World.block_lt_of_cell? w _ this)
theorem Keys.at {w : World} {ko : Option Addr} {n : Nat} {K : Nat → KeyV} (h : Keys w ko n K) {k : Nat} (hk : k < n) :
    ∃ b off, ko = some ⟨b, off, none⟩ ∧ w.cell? ⟨b, off + k, none⟩ = some (.slice (K k).a (K k).l (K k).c) ∧ b < w.heap.size := by
  rcases h.2 with h | ⟨b, off, e, hc⟩
  · omega
  · exact ⟨b, off, e, hc k hk, World.block_lt_of_cell? w _ (hc k hk)⟩

/-- The object's block. -/
def ObjB (w : World) (g : Nat) (v : Value) : Prop := w.heap[g]? = some (.cells #[v] 38 (0, 0))
theorem ObjB.cell {w : World} {g : Nat} {v : Value} (h : ObjB w g v) : w.cell? ⟨g, 0, none⟩ = some v := by
  unfold ObjB at h; simp [World.cell?, h]
theorem ObjB.other {w : World} {g : Nat} {v : Value} (h : ObjB w g v) (a : Addr) (ha : g ≠ a.block) (u : Value) : ObjB (w.setCell a u) g v := by
  unfold ObjB at h ⊢
  rw [Below.heap_setCell _ _ _ _ ha]
  exact h

set_option maxRecDepth 100000 in
set_option maxHeartbeats 1000000 in
theorem objFind_any (ko : Option Addr) (n cap : Nat) (K : Nat → KeyV) (s : ByteArray) (w : World) (hn : n ≤ 2097152) (hK : Keys w ko n K) :
    Calls Try.prog 10 #[.slice ko n cap, .string s] w fun e w' => ∃ r : Int, e = .returned (.int .i64 r) ∧ First (fun i => keyEq (K i).ys s) n r ∧ Below w.heap.size w w' := by
  have HK : Hid (Keys w ko n K) := hK
  have hmk := run_make_members n hn
  have HM : Hid ((w.alloc (.cells (memCells n) 40)).rowIs w.heap.size 40 (n * 3) (memF K 0)) := mem_made w K n
  clear hK
  go_enter Try.func10, Try.ntmps10
  go_wp2
  clear hmk
  go_loopw [6] (fun i wr => ∃ k : Nat, k ≤ n ∧ i = .int .i64 k ∧ Below w.heap.size w wr ∧ Hid (wr.rowIs w.heap.size 40 (n * 3) (memF K k)) ∧ Hid (ObjB wr (w.heap.size + 1) (.slice (some ⟨w.heap.size, 0, none⟩) n n))) (fun i _ => n - (intOf i).toNat)
  case atStart =>
    refine ⟨0, by omega, rfl, ((Below.refl _ _).alloc (Nat.le_refl _) _).alloc (by simp) _, HM.out.alloc _, ?_⟩
    show (World.alloc _ _).heap[w.heap.size + 1]? = _
    rw [← World.size_alloc w (.cells (memCells n) 40)]
    exact heap_alloc_new _ _
  case round =>
    obtain ⟨k, hk, rfl, hB, HR, HO⟩ := hrel
    have HB : Hid (Below w.heap.size w wr) := hB
    clear hB HM
    have cO := HO.out.cell
    by_cases hkn : k < n
    · obtain ⟨b, off, rfl, cz, hbw⟩ := HK.out.at hkn
      rw [← HB.out.cell (p := ⟨b, off + k, none⟩) hbw] at cz
      have hfr := HR.out.frozen (k * 3)
      have hcg := HR.out.cell (i := k * 3) (by omega)
      go_wp2
      go_region
      go_wp2
      go_roundw
      case rel => exact ⟨k + 1, by omega, by go_num, (HB.out.setCell (Nat.le_refl _) _).drew, (mem_set HR.out).drew, HO.out.other _ (by simp) _⟩
      case measure => simp [intOf]; omega
    · obtain rfl : k = n := by omega
      go_wp2_with fail
      refine (find_any (w.heap.size + 1) w.heap.size k K s wr hn cO (mem_cells HR.out) (fun i hi => (HK.out.1 i hi).below HB.out)).mono ?_
      rintro e w1 ⟨r, rfl, hr, hB1⟩
      have HR1 : Hid (First (fun i => keyEq (K i).ys s) k r) := hr
      have HB1 : Hid (Below w.heap.size w w1) := HB.out.trans (hB1.mono HB.out.size)
      clear hr hB1
      go_wp2
      go_ret
      exact ⟨r, rfl, HR1.out, HB1.out⟩
end Go.Proofs.Qxb6619353a
