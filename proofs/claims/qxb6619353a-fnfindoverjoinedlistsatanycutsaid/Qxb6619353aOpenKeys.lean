/-
  WHAT THE ROW's OWN WORDS SAY OF A SLICE OF SLICES OF BYTES, in mine.
-/
import Derived.Test.Qxb6619353aRowsOfKeys
import Derived.ProofKit
import Derived.Deep.Matrix
namespace Go.Proofs.Qxb6619353a
open Go.ChangeShapes Go.WideShapes Go.ChangeAt Go.RowKit Go.Deep

theorem cells22 : Try.prog.cellsOf 22 = 1 := by kernel_rfl
theorem cells5 : Try.prog.cellsOf 5 = 1 := by kernel_rfl

theorem keys_of_trod {H : Type} {enc : TypeId × Value → H} {W : World} {ko : Option Addr} {n cap fuel : Nat} {x : DataW H × List MemPlace}
    (h : DataW.trod enc Try.prog W 0 (fun _ => true) true fuel 26 (Value.slice ko n cap).cells.toList = some x) : ∃ K : Nat → KeyV, RawK W ko n K ∧ Loose W n K := by
  rcases open_int_rows Try.underlying26 Try.underlying22 Try.underlying5 cells22 cells5 h with ⟨hcs, _⟩ | ⟨a, len, cp, A, L, C, Z, hcs, _, hl, _, _, hr⟩
  · simp [Value.cells] at hcs
    obtain ⟨rfl, rfl, rfl⟩ := hcs
    exact ⟨fun _ => ⟨none, 0, 0, []⟩, .inl rfl, fun i hi => absurd hi (by omega)⟩
  · simp [Value.cells] at hcs
    obtain ⟨rfl, rfl, rfl⟩ := hcs
    refine ⟨fun i => ⟨A i, L i, C i, (Z i).take (L i)⟩, ?_, fun i hi => ?_⟩
    · by_cases h0 : n = 0
      · exact .inl h0
      · obtain ⟨b, off, spot⟩ := a
        have hs : spot = none := by simpa [Addr.add] using World.cell?_spot (hr 0 (by omega)).1
        subst hs
        refine .inr ⟨b, off, rfl, fun i hi => ?_⟩
        have := (hr i (by omega)).1
        rw [add_plain] at this
        exact this
    · obtain ⟨_, h1, h2, h3, h4, h5, h6⟩ := hr i (by omega)
      show ((Z i).take (L i)).length = L i ∧ Bts W (A i) ((Z i).take (L i)) ∧ Byt ((Z i).take (L i))
      cases hA : A i with
      | none =>
        have hc := h5 hA
        have hl0 : L i = 0 := by omega
        have hz : (Z i).take (L i) = [] := by rw [hl0]; rfl
        rw [hz, hl0]
        exact ⟨rfl, .inl rfl, fun i => by simp⟩
      | some a' =>
        obtain ⟨_, hc⟩ := h6 a' hA
        obtain ⟨q1, q2, q3, _⟩ := row_view (w := W) (x := a') h1 h3 (fun c hc' => hc c (by omega)) h4
        refine ⟨q1, Held.bts (cap := 0) ?_, q3⟩
        unfold Held
        refine ⟨(fun e => by cases e), ?_⟩
        intro ad had j u hu
        obtain rfl := Option.some.inj had
        obtain ⟨hj, rfl⟩ := bytesV_at hu
        exact q2 j hj

end Go.Proofs.Qxb6619353a
