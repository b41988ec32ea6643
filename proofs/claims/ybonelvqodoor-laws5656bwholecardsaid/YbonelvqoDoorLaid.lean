/-
  Seat b5656gsD, project tuoguan: what the row's condition on 'securities.types' gives the walks: the table's cells. My own text, after the guide's MapyProofs and SlicePairs.
-/
import Derived.Test.YbonelvqoDoorRows
import Derived.Test.YbonelvqoDoorLaw
import Derived.ProofKit
import Derived.LaidMore
import Derived.OpenShut
import Derived.Stop.Joined
import Derived.Deep.SlicePairs
namespace Go.Proofs.YbonelvqoDoor
open Go.ChangeShapes Go.WideShapes Go.ChangeAt Go.RowKit

/-- The listed variable's name, out of the given specification. -/
def typesName : String := Rows.lawS5656BWholeSpec.vars.headD ""
theorem gTypes : Ybgs.prog.globalNamed typesName = some 0 := by kernel_rfl
theorem tTypes : (Ybgs.prog.globals[0]?).map (·.type) = some 29 := by kernel_rfl
theorem cells30 : Ybgs.prog.cellsOf 30 = 2 := by kernel_rfl

theorem str_of {s : ByteArray} {l : List UInt8} (h : s.data.toList = l) : s = ⟨l.toArray⟩ := by
  cases s; simp at h; subst h; simp

theorem of_laid {W : World} (h : laidMetH Ybgs.prog Rows.lawS5656BWholeRow.laid W) : ∃ g off cap, Table W g off cap := by
  rw [MakeChecks.laidMetH_plain _ _ _ (by kernel_rfl)] at h
  obtain ⟨ps, ⟨g0, t0, cs0, f0, p0, q0, hg0, ht0, hv0, hd0, _, _⟩, _, _⟩ := h
  obtain rfl := Option.some.inj (gTypes.symm.trans hg0)
  obtain rfl := Option.some.inj (tTypes.symm.trans ht0)
  rcases Deep.open_slice_pairs Ybgs.underlying29 Ybgs.underlying30 cells30 rfl rfl (by kernel_rfl) (by kernel_rfl) hd0 with ⟨_, hx⟩ | ⟨a, len, cap, m, n, V0, V1, D0, D1, P0, P1, hcs, _, hl, _, hm, hx, hel⟩
  · simp [Rows.laid_example_com_tuoguan_tuoguan_securities_types] at hx
  simp only [Prod.mk.injEq, Rows.laid_example_com_tuoguan_tuoguan_securities_types, DataW.slice.injEq] at hx
  obtain ⟨⟨h1, _⟩, _⟩ := hx
  have hlen : 3 = len := by simpa using congrArg List.length h1
  subst hlen
  have hm3 : 3 ≤ m := by rw [hm]; split <;> omega
  have e : (List.range 3).map (fun i => DataW.agg [D0 i, D1 i]) = [.agg [D0 0, D1 0], .agg [D0 1, D1 1], .agg [D0 2, D1 2]] := rfl
  rw [e] at h1
  simp only [List.cons.injEq, DataW.agg.injEq, and_true] at h1
  obtain ⟨⟨d00, d01⟩, ⟨d10, d11⟩, ⟨d20, d21⟩⟩ := h1
  obtain ⟨b, off, spot⟩ := a
  have hspot : spot = none := by simpa [Addr.add] using World.cell?_spot (hel 0 (by omega)).1
  subst hspot
  have hadd : ∀ k, (⟨b, off, none⟩ : Addr).add k = ⟨b, off + k, none⟩ := fun k => add_plain _ _ _
  have str : ∀ i l, i < m → DataW.lit (.string l) = D0 i → W.cell? ⟨b, off + i * 2, none⟩ = some (.string ⟨l.toArray⟩) := fun i l hi hd => by
    obtain ⟨c0, _, t0, _⟩ := hel i hi
    obtain ⟨s, es, ex, _⟩ := DataW.trod_string Ybgs.underlying9 t0
    simp only [List.cons.injEq, and_true] at es
    simp only [Prod.mk.injEq] at ex
    have : DataW.lit (.string l) = DataW.lit (H := Unit) (.string s.data.toList) := hd.trans ex.1
    simp only [DataW.lit.injEq, Lit.string.injEq] at this
    rw [← hadd, c0, es, str_of this.symm]
  have num : ∀ i z, i < m → DataW.lit (.int .i64 z) = D1 i → W.cell? ⟨b, off + (i * 2 + 1), none⟩ = some (.int .i64 z) := fun i z hi hd => by
    obtain ⟨_, c1, _, t1⟩ := hel i hi
    obtain ⟨k, ek, ex, _⟩ := DataW.trod_int Ybgs.underlying23 t1
    simp only [List.cons.injEq, and_true] at ek
    simp only [Prod.mk.injEq] at ex
    have : DataW.lit (.int .i64 z) = DataW.lit (H := Unit) (.int .i64 k) := hd.trans ex.1
    simp only [DataW.lit.injEq, Lit.int.injEq, true_and] at this
    rw [← hadd, c1, ek, this]
  refine ⟨b, off, cap, ?_, str 0 _ (by omega) d00, num 0 _ (by omega) d01, str 1 _ (by omega) d10, num 1 _ (by omega) d11, str 2 _ (by omega) d20, num 2 _ (by omega) d21⟩
  have := World.var?_cell hg0 hv0 0
  rw [Array.eq_one_of_toList hcs] at this
  simpa using this
end Go.Proofs.YbonelvqoDoor
