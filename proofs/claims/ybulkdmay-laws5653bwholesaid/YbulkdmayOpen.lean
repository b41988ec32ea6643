/-
  Seat b5653a, project quillet: a slice of strings that came in, opened for the walks. My own text.
-/
import Derived.Test.YbulkdmayScript
import Derived.ProofKit
import Derived.SliceStrings
namespace Go.Proofs.Ybulkdmay
open Go.ChangeShapes Go.WideShapes Go.ChangeAt Go.RowKit

theorem Yba.cells9 : Yba.prog.cellsOf 9 = 1 := by kernel_rfl

theorem open_words {H : Type} {enc : TypeId × Value → H} {W : World} {a : Option Addr} {len cap : Nat} {d : DataW H} {p : List MemPlace}
    (h : DataW.Trod enc Yba.prog W 0 (fun _ => true) true 22 (.slice a len cap) d p) (hlt : ∀ x ∈ p, x.block < W.heap.size) : ∃ σ, Words W a len σ := by
  obtain ⟨fuel, hf⟩ := h
  rcases open_strings Yba.underlying22 Yba.underlying9 Yba.cells9 hf with ⟨hcs, hx⟩ | ⟨x, l, c, ss, hcs, _, hl, hm, hz, hx, hcell, hws⟩
  · simp [Value.cells] at hcs
    obtain ⟨rfl, rfl, rfl⟩ := hcs
    exact ⟨fun _ => ByteArray.empty, fun _ => Nat.zero_le _, Nat.zero_le _, .inl rfl⟩
  · simp [Value.cells] at hcs
    obtain ⟨rfl, rfl, rfl⟩ := hcs
    simp only [if_true] at hz
    simp only [Prod.mk.injEq] at hx
    obtain ⟨_, rfl⟩ := hx
    refine ⟨fun j => ss.getD j ByteArray.empty, fun j => ?_, by omega, ?_⟩
    · by_cases hj : j < ss.length
      · have e : ss.getD j ByteArray.empty = ss[j] := by simp [List.getD, List.getElem?_eq_getElem hj]
        show (ss.getD j ByteArray.empty).size ≤ maxLen
        rw [e]
        exact hws _ (List.getElem_mem hj)
      · have e : ss.getD j ByteArray.empty = ByteArray.empty := by simp [List.getD, List.getElem?_eq_none (by omega : ss.length ≤ j)]
        show (ss.getD j ByteArray.empty).size ≤ maxLen
        rw [e]
        exact Nat.zero_le _
    · by_cases hl0 : len = 0
      · exact .inl hl0
      · right
        obtain ⟨b, off, spot⟩ := x
        have hspot : spot = none := by simpa [Addr.add] using World.cell?_spot (hcell 0 (by omega))
        subst hspot
        exact ⟨b, off, rfl, hlt (.cell b off) (MemPlace.mem_row.2 ⟨0, by omega, by simp⟩), fun j hj => by rw [← add_plain]; exact hcell j (by omega)⟩
end Go.Proofs.Ybulkdmay
