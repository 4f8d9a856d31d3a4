/-
  A COPY OF A ROW OF BYTES IN A NEW BLOCK ('zzc := make([]byte, len(b)); copy(zzc, b)'): what the two laws on hexValue share.
-/
import Derived.Test.Qxb6619345aHexWalks
import Derived.Laws.CopyOwn
import Derived.Deep.OwnRows
namespace Go.Proofs.Qxb6619345a
open Go.RowKit

theorem Try.info5 : (Try.prog.info? 5).map (fun i => (i.zero, i.size, i.bytes)) = some (some (.int .u8 0), 1, 1) := by kernel_rfl
theorem Try.size5 : (Try.prog.info? 5).map (·.size) = some 1 := by kernel_rfl

/-- What 'make' has laid, as a list. -/
def zeros (n : Nat) : List Value := (madeCells #[.int .u8 0] n).toList
theorem zeros_length (n : Nat) : (zeros n).length = n := by simp [zeros, size_madeCells]
/-- The bytes as cells. -/
def bytesV (ys : List Int) : List Value := ys.map (Value.int .u8)
theorem bytesV_length (ys : List Int) : (bytesV ys).length = ys.length := by simp [bytesV]
theorem bytesV_one (ys : List Int) : ∀ v ∈ bytesV ys, v.oneCell' = true := by
  intro v hv
  obtain ⟨z, _, rfl⟩ := List.mem_map.1 hv
  rfl
theorem bytesV_at {ys : List Int} {j : Nat} {v : Value} (h : (bytesV ys)[j]? = some v) : j < ys.length ∧ v = .int .u8 (ys.getD j 0) := by
  unfold bytesV at h
  rw [List.getElem?_map] at h
  cases hj : ys[j]? with
  | none => rw [hj] at h; cases h
  | some z =>
    rw [hj] at h
    have := (List.getElem?_eq_some_iff.1 hj).1
    refine ⟨this, ?_⟩
    simp at h
    rw [List.getD_eq_getElem?_getD, hj]
    exact h.symm
theorem splice_whole (n : Nat) (ys : List Int) (h : ys.length = n) : splice (zeros n) 0 (bytesV ys) = bytesV ys := by
  unfold splice
  rw [List.drop_of_length_le (by rw [zeros_length, bytesV_length]; omega)]
  simp
theorem made_at (w : World) (n : Nat) : (w.alloc (.cells (madeCells #[.int .u8 0] n) 5)).heap[w.heap.size]? = some (.cells (zeros n).toArray 5 (0, 0)) := by
  rw [heap_alloc_new]
  simp [zeros]
/-- A block that holds the bytes, read as a row of bytes. -/
theorem Bts_of_block {w : World} {g : Nat} {ys : List Int} (h : w.heap[g]? = some (.cells (bytesV ys).toArray 5 (0, 0))) : Bts w (some ⟨g, 0, none⟩) ys := by
  refine .inr ⟨g, 0, rfl, fun i hi => ?_⟩
  simp only [World.cell?, h]
  simp [bytesV, hi]

theorem add_block (x : Addr) (j : Nat) : (x.add j).block = x.block := by unfold Addr.add; split <;> rfl

theorem cell_of_bytes {w : World} {g : Nat} {ys : List Int} (h : w.heap[g]? = some (.cells (bytesV ys).toArray 5 (0, 0))) {i : Nat} (hi : i < ys.length) : w.cell? ⟨g, i, none⟩ = some (.int .u8 (ys.getD i 0)) := by
  simp only [World.cell?, h]
  simp [bytesV, hi]
/-- What the row's own words say of a slice of bytes that is not nil, in mine. -/
theorem row_view {w : World} {x : Addr} {len cap : Nat} {zs : List Int} (hlc : len ≤ cap) (hzl : zs.length = cap) (hcell : ∀ i, i < zs.length → w.cell? (x.add i) = some (.int .u8 (zs.getD i 0))) (hwf : ∀ n ∈ zs, (Lit.int .u8 n).wf = true) :
    (zs.take len).length = len ∧ (∀ i, i < (zs.take len).length → w.cell? (x.add i) = some (.int .u8 ((zs.take len).getD i 0))) ∧ Byt (zs.take len) ∧ (0 < len → x.block < w.heap.size) := by
  have hl : (zs.take len).length = len := by rw [List.length_take]; omega
  have hg : ∀ i, i < len → (zs.take len).getD i 0 = zs.getD i 0 := fun i hi => by
    rw [List.getD_eq_getElem?_getD, List.getD_eq_getElem?_getD, List.getElem?_take, if_pos hi]
  refine ⟨hl, fun i hi => ?_, fun i => ?_, fun h0 => ?_⟩
  · rw [hg i (by omega)]
    exact hcell i (by omega)
  · by_cases hi : i < len
    · rw [hg i hi]
      have hm : zs.getD i 0 ∈ zs := by
        rw [List.getD_eq_getElem?_getD, List.getElem?_eq_getElem (by omega)]
        exact List.getElem_mem _
      have := hwf _ hm
      simpa [Lit.wf, IntKind.min, IntKind.max, IntKind.signed, IntKind.bits] using this
    · rw [List.getD_eq_getElem?_getD, List.getElem?_eq_none (by omega)]
      simp
  · have := World.block_lt_of_cell? w (x.add 0) (hcell 0 (by omega))
    rwa [add_block] at this
theorem ret_true {b : Bool} (h : b = true) : Ending.returned (.bool b) = .returned (.bool true) := by rw [h]

end Go.Proofs.Qxb6619345a
