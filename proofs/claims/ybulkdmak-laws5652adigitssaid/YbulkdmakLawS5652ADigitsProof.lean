/-
  THE PROOF OF 'Rows.LawS5652ADigitsSaid'. The frame is after the guide's shells (proof-skeleton.mjs), turned by hand to an array among the arguments.
-/
import Derived.Test.YbulkdmakRows
import Derived.Test.YbulkdmakDigits
import Derived.WalkKit
import Derived.ProofKit
import Derived.OpenShut
import Derived.ShutString
import Derived.Laws.IdiomArrays
namespace Go.Proofs.Ybulkdmak.lawS5652ADigits
open Go.ChangeShapes Go.WideShapes Go.ChangeAt Go.RowKit
open Go.ChangeMaps (open_string shut_string)
set_option linter.unusedVariables false

theorem own : ownKnob Yba.prog.godebug = none := by kernel_rfl
theorem laidOut : laidOutB Yba.prog = true := by kernel_rfl
theorem cells5 : Yba.prog.cellsOf 5 = 1 := by kernel_rfl
theorem cells23 : Yba.prog.cellsOf 23 = 3 := by kernel_rfl

theorem walk (a0 : ByteArray) (x0 x1 x2 a2 : Int) (a3 : ByteArray) (w0 : a0.size ≤ maxLen) (b0 : 0 ≤ x0 ∧ x0 ≤ 255) (b1 : 0 ≤ x1 ∧ x1 ≤ 255) (b2 : 0 ≤ x2 ∧ x2 ≤ 255) (w2 : (Lit.int .u8 a2).wf = true) (w3 : a3.size ≤ maxLen) (w : World) :
    Calls Yba.prog 4 #[.string a0, .agg #[.int .u8 x0, .int .u8 x1, .int .u8 x2], .int .u8 a2, .string a3] w fun e w' => e = .returned (.bool true) ∧ w.keptBut w' (fun _ => False) := by
  have k := bounds_u8 w2
  by_cases h : 1048576 < a0.size ∨ 1048576 < a3.size
  · exact digits_long a0 a3 x0 x1 x2 a2 w w0 w3 h
  · exact digits_walk a0 a3 x0 x1 x2 a2 w (by omega) (by omega) k.1 k.2 b0 b1 b2

/-- A [3]byte by value: the value written out; no place of memory. -/
theorem open_three {H : Type} {enc : TypeId × Value → H} {W : World} {base b0 : Nat} {r : Reach} {spare : Nat → Bool} {held : Bool} {v : Value} {d : DataW H} {p : List MemPlace}
    (hv : Value.okWide Yba.prog W r b0 23 v) (h : DataW.Trod enc Yba.prog W base spare held 23 v d p) :
    ∃ x0 x1 x2 : Int, v = .agg #[.int .u8 x0, .int .u8 x1, .int .u8 x2] ∧ p = [] ∧ (0 ≤ x0 ∧ x0 ≤ 255) ∧ (0 ≤ x1 ∧ x1 ≤ 255) ∧ (0 ≤ x2 ∧ x2 ≤ 255) := by
  unfold Value.okWide at hv
  rw [Yba.underlying23] at hv
  obtain ⟨cs, rfl, hsz, _⟩ := hv
  rw [cells23] at hsz
  obtain ⟨l⟩ := cs
  match l, hsz with
  | [c0, c1, c2], _ =>
    obtain ⟨fuel, hf⟩ := h
    obtain ⟨y0, y1, y2, n, hx, h0, h1, h2⟩ := trod_array3 Yba.underlying23 cells5 (show DataW.trod enc Yba.prog W base spare held fuel 23 [c0, c1, c2] = some _ from hf)
    obtain ⟨x0, e0, rfl, g0⟩ := DataW.trod_int Yba.underlying5 h0
    obtain ⟨x1, e1, rfl, g1⟩ := DataW.trod_int Yba.underlying5 h1
    obtain ⟨x2, e2, rfl, g2⟩ := DataW.trod_int Yba.underlying5 h2
    simp at e0 e1 e2
    subst e0 e1 e2
    simp only [Prod.mk.injEq] at hx
    exact ⟨x0, x1, x2, rfl, by simpa using hx.2, bounds_u8 g0, bounds_u8 g1, bounds_u8 g2⟩

set_option maxRecDepth 100000 in
theorem lifted (os : Os) (started : os.Started) (H : Type) (enc : TypeId × Value → H) :
    ReturnsInHanded {} Yba.checked os 4 .any (Rows.lawS5652ADigitsSpec.pre6 enc Yba.prog Yba.f4 Rows.lawS5652ADigitsRow.domain false) (Rows.lawS5652ADigitsSpec.post enc Yba.prog Yba.f4 false true false false) := by
  refine returnsInHanded_of_change (C := Yba.checked) own started (by kernel_rfl) Yba.func4
    (ChangeSpec.witness6 (enc := enc) (C := Yba.checked) false ⟨#[], #[.string ByteArray.empty, .agg #[.int .u8 0, .int .u8 0, .int .u8 0], .int .u8 0, .string ByteArray.empty], []⟩ 8 (by kernel_rfl) (by kernel_rfl) (by kernel_rfl) (by kernel_rfl)) ?_
  intro W base args ds gs before hval0 hW hcnd _
  have hval : ∀ (j : Nat) t v, Yba.f4.params[j]? = some t → args[j]? = some v → Value.okWide Yba.prog W .any base t v := hval0
  have hW' := hW
  obtain ⟨p, q, hA0, hV, rfl, hfz, hnd⟩ := hW
  have hA : DataW.TrodAll enc Yba.prog W 0 (fun _ => true) true Yba.f4.params.toList args.toList ds p := hA0
  rw [Yba.params4] at hA hval
  obtain ⟨v0, vs0, d0, ds0, p0, q0, hargs, rfl, rfl, h0, r0⟩ := trodAll_cons hA
  obtain ⟨v1, vs1, d1, ds1, p1, q1, rfl, rfl, rfl, h1, r1⟩ := trodAll_cons r0
  obtain ⟨v2, vs2, d2, ds2, p2, q2, rfl, rfl, rfl, h2, r2⟩ := trodAll_cons r1
  obtain ⟨v3, vs3, d3, ds3, p3, q3, rfl, rfl, rfl, h3, r3⟩ := trodAll_cons r2
  obtain ⟨rfl, rfl, rfl⟩ := trodAll_nil r3
  obtain rfl : args = #[v0, v1, v2, v3] := by cases args; simp_all
  obtain ⟨rfl, rfl⟩ := trodVars_none hV
  obtain ⟨a0, rfl, rfl, rfl, w0⟩ := open_string Yba.underlying9 (hval 0 9 v0 rfl rfl) h0
  have k1 := h1
  obtain ⟨x0, x1, x2, rfl, rfl, b0, b1, b2⟩ := open_three (hval 1 23 v1 rfl rfl) h1
  obtain ⟨a2, rfl, rfl, rfl, w2⟩ := open_int Yba.underlying5 (hval 2 5 v2 rfl rfl) h2
  obtain ⟨a3, rfl, rfl, rfl, w3⟩ := open_string Yba.underlying9 (hval 3 9 v3 rfl rfl) h3
  clear hA0 hval0
  refine (walk a0 x0 x1 x2 a2 a3 w0 b0 b1 b2 w2 w3 W).mono fun e W' ⟨he, hk⟩ => ?_
  subst he
  exact ⟨_, rfl, _, _, _, [], _, [], hW', trodAll_mk1 (shut_bool Yba.underlying4 _), (trodAll_cons_mk (shut_string Yba.underlying9 w0) (trodAll_cons_mk (WideElems.Trod_stays laidOut (by kernel_rfl) (of_decide_eq_true (by kernel_rfl)) k1 (fun x hx => by cases hx) (fun x hx => by cases hx)) (trodAll_cons_mk (shut_int Yba.underlying5 w2) (trodAll_cons_mk (shut_string Yba.underlying9 w3) trodAll_mk0)))), rfl, World.keptBut_mono (fun _ f => f.elim) hk, fun h => by cases h⟩

theorem over : Rows.lawS5652ADigitsRow.holds Yba.pinned (OpenSpec.ofChange Rows.lawS5652ADigitsSpec) :=
  OpenClaim.holds_of_wide 4 Yba.f4 rfl rfl rfl rfl rfl rfl rfl ⟨rfl, rfl, rfl, rfl, rfl⟩ rfl rfl rfl rfl rfl (by kernel_rfl) Yba.func4 (by kernel_rfl)
    (of_decide_eq_true (by kernel_rfl)) (by unfold Func.isWrapper; first | (rw [if_pos (by decide +kernel)]; kernel_rfl) | (rw [if_neg (by decide +kernel)]; exact ⟨rfl, rfl⟩))
    (fun os started H enc _ => lifted os started H enc)

/-- THE STATEMENT -/
theorem proved : Rows.LawS5652ADigitsSaid :=
  over
end Go.Proofs.Ybulkdmak.lawS5652ADigits
