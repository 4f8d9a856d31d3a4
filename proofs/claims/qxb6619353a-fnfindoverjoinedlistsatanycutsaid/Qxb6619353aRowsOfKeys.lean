/-
  A ROW OF KEYS THAT IS FILLED CELL BY CELL; a key put in at a place; two lists joined.
-/
import Derived.Test.Qxb6619353aFindWalks2
namespace Go.Proofs.Qxb6619353a
open Go.RowKit

theorem Try.info22 : (Try.prog.info? 22).map (fun i => (i.zero, i.size, i.bytes)) = some (some (.slice none 0 0), 1, 24) := by kernel_rfl

/-- The first k keys of V, the rest nil. -/
def insF (V : Nat → KeyV) (k : Nat) (j : Nat) : Value := if j < k then .slice (V j).a (V j).l (V j).c else .slice none 0 0
theorem ins_set {w : World} {g N k : Nat} {V : Nat → KeyV} (h : w.rowIs g 22 N (insF V k)) (v : KeyV) (hv : V k = v) : (w.setCell ⟨g, k, none⟩ (.slice v.a v.l v.c)).rowIs g 22 N (insF V (k + 1)) := by
  subst hv
  refine (h.set k _).congr fun j hj => ?_
  unfold insF
  by_cases e : j = k
  · subst e
    rw [if_pos rfl, if_pos (by omega)]
  · rw [if_neg e]
    by_cases hjk : j < k
    · rw [if_pos hjk, if_pos (by omega)]
    · rw [if_neg hjk, if_neg (by omega)]
theorem ins_made (w : World) (N : Nat) (V : Nat → KeyV) : (w.alloc (.cells (madeCells #[.slice none 0 0] N) 22)).rowIs w.heap.size 22 N (insF V 0) := by
  refine (World.rowIs_made w (.slice none 0 0) N 22).congr fun j _ => ?_
  simp [insF]
theorem ins_keys {w : World} {g N : Nat} {V : Nat → KeyV} (h : w.rowIs g 22 N (insF V N)) (hV : ∀ i, i < N → (V i).ok w) : Keys w (some ⟨g, 0, none⟩) N V := by
  refine ⟨hV, .inr ⟨g, 0, rfl, fun i hi => ?_⟩⟩
  rw [Nat.zero_add, h.cell hi]
  unfold insF
  rw [if_pos hi]

/-- q put in at place j. -/
def putK (K : Nat → KeyV) (j : Nat) (q : KeyV) (i : Nat) : KeyV := if i < j then K i else if i = j then q else K (i - 1)
theorem putK_lt {K : Nat → KeyV} {j : Nat} {q : KeyV} {i : Nat} (h : i < j) : putK K j q i = K i := by unfold putK; rw [if_pos h]
theorem putK_at {K : Nat → KeyV} {j : Nat} {q : KeyV} : putK K j q j = q := by unfold putK; rw [if_neg (by omega), if_pos rfl]
theorem putK_gt {K : Nat → KeyV} {j : Nat} {q : KeyV} {i : Nat} (h : j ≤ i) : putK K j q (i + 1) = K i := by unfold putK; rw [if_neg (by omega), if_neg (by omega)]; rfl

/-- Two lists joined. -/
def joinK (K : Nat → KeyV) (n : Nat) (K' : Nat → KeyV) (i : Nat) : KeyV := if i < n then K i else K' (i - n)
theorem joinK_lt {K K' : Nat → KeyV} {n i : Nat} (h : i < n) : joinK K n K' i = K i := by unfold joinK; rw [if_pos h]
theorem joinK_ge {K K' : Nat → KeyV} {n i : Nat} : joinK K n K' (n + i) = K' i := by unfold joinK; rw [if_neg (by omega), show n + i - n = i by omega]

theorem numsOf_length (s : ByteArray) : (numsOf s).length = s.size := by simp [numsOf]
theorem numsOf_byt (s : ByteArray) : Byt (numsOf s) := by
  intro i
  by_cases h : i < s.size
  · rw [numsOf_at s i h]
    have := (s[i]'h).toNat_lt
    omega
  · rw [List.getD_eq_getElem?_getD, List.getElem?_eq_none (by rw [numsOf_length]; omega)]
    simp
theorem keyEq_self (s : ByteArray) : keyEq (numsOf s) s = true := by unfold keyEq; exact decide_eq_true rfl
/-- The row that holds the string's bytes, as a key. -/
theorem ok_put {w : World} {g : Nat} {s : ByteArray} (h : w.rowIs g 5 s.size (fillF (numsOf s) s.size)) (hs : s.size ≤ 1048576) : (KeyV.mk (some ⟨g, 0, none⟩) s.size s.size (numsOf s)).ok w :=
  ⟨numsOf_length s, fill_bts h (numsOf_length s), numsOf_byt s, hs⟩

/-- What is known of the keys before their lengths are. -/
def Loose (w : World) (n : Nat) (K : Nat → KeyV) : Prop := ∀ i, i < n → (K i).ys.length = (K i).l ∧ Bts w (K i).a (K i).ys ∧ Byt (K i).ys
theorem Loose.keys {w : World} {ko : Option Addr} {n : Nat} {K : Nat → KeyV} (h : Loose w n K) (hr : RawK w ko n K) (hs : Short K n) : Keys w ko n K :=
  ⟨fun i hi => ⟨(h i hi).1, (h i hi).2.1, (h i hi).2.2, hs i hi⟩, hr⟩

end Go.Proofs.Qxb6619353a
