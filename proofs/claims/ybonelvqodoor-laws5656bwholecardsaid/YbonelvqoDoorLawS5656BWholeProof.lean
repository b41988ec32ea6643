/-
  THE PROOF OF 'Rows.LawS5656BWholeCardSaid': the row's statement (the frame after the guide's MapyProofs), then the tied card by the builder's one call (after the guide's ToyasCard, MapyCard). The tie is given.
-/
import Derived.Test.YbonelvqoDoorRows
import Derived.Test.YbonelvqoDoorTie
import Derived.Test.YbonelvqoDoorCards
import Derived.Test.YbonelvqoDoorLaid
import Derived.WalkKit
import Derived.ProofKit
import Derived.OpenShut
import Derived.ShutString
import Derived.ChangeVars
import Derived.WalkSmall
import Derived.SevenTiedAt
namespace Go.Proofs.YbonelvqoDoor.lawS5656BWhole
open Go.ChangeShapes Go.WideShapes Go.ChangeAt Go.RowKit
open Go.ChangeMaps (open_string shut_string)
set_option linter.unusedVariables false

theorem own : ownKnob Ybgs.prog.godebug = none := by kernel_rfl
theorem laidOut : laidOutB Ybgs.prog = true := by kernel_rfl

/-- The heap that the door's own run leaves meets the condition: the witness. -/
theorem door_met (os : Os) (args : Array Value) : laidMetH Ybgs.prog Rows.lawS5656BWholeRow.laid ((World.doorLaid Ybgs.prog 17 os).forCall (fun _ _ => 0) ⟨#[], args, []⟩).memory :=
  laidMetH_of_parts3 (fuel := 8) (laidMet_of_run' 8 (by kernel_rfl) (by kernel_rfl)) (by kernel_rfl) (by kernel_rfl)

/-- The variable reads behind the call as it read before. -/
theorem vars_again {H : Type} {enc : TypeId × Value → H} {W W' : World} {cs : Array Value} {fuel : Nat} {d : DataW H} {p : List MemPlace} (hv : W.var? Ybgs.prog typesName = some cs)
    (hd : DataW.trod enc Ybgs.prog W 0 (fun _ => true) true fuel 29 cs.toList = some (d, p)) (h0 : 0 < W.heap.size) (bel : Below W.heap.size W W') :
    DataW.TrodVars enc Ybgs.prog W' (fun b => decide (b < W.heap.size)) [typesName] [d] (MemPlace.row ⟨0, 0, none⟩ cs.size ++ p) := by
  have hcell : ∃ a len cap, cs = #[.slice a len cap] := by
    rcases DataW.trod_slice Ybgs.underlying29 hd with ⟨e, _⟩ | ⟨a, len, cap, _, _, _, _, e, _⟩
    · exact ⟨none, 0, 0, Array.eq_one_of_toList e⟩
    · exact ⟨some a, len, cap, Array.eq_one_of_toList e⟩
  obtain ⟨a, len, cap, rfl⟩ := hcell
  have hT : DataW.Trod enc Ybgs.prog W 0 (fun _ => true) true 29 (.slice a len cap) d p := ⟨fuel, hd⟩
  obtain ⟨fuel', hd'⟩ := Below.trod laidOut (by kernel_rfl) (of_decide_eq_true (by kernel_rfl)) hT bel (DataW.trod_lt fuel _ _ _ hd)
  exact trodVars_mk1 gTypes tTypes (var?_below bel gTypes h0 hv) hd'

set_option maxRecDepth 100000 in
theorem lifted (os : Os) (started : os.Started) (H : Type) (enc : TypeId × Value → H) :
    ReturnsInHanded {} Ybgs.checked os 3 .any (fun w args => (Rows.lawS5656BWholeSpec.pre enc Ybgs.prog Ybgs.f3 [] false w args ∧ laidMetH Ybgs.prog Rows.lawS5656BWholeRow.laid w) ∧ sizedMet enc Ybgs.prog Ybgs.f3 (OpenSpec.ofChange Rows.lawS5656BWholeSpec) false w args)
      (Rows.lawS5656BWholeSpec.post enc Ybgs.prog Ybgs.f3 false true false false) := by
  refine returnsInHanded_of_change_and (C := Ybgs.checked) (X := fun w _ => laidMetH Ybgs.prog Rows.lawS5656BWholeRow.laid w) (fun _ _ _ hh h => h.of_heap hh) own started (by kernel_rfl) Ybgs.func3
    (ChangeSpec.witness_shaped (enc := enc) (C := Ybgs.checked) (os := os) (X := fun w _ => laidMetH Ybgs.prog Rows.lawS5656BWholeRow.laid w) false (World.doorLaid Ybgs.prog 17 os) #[.bool false, .int .u8 0, .string ByteArray.empty, .string ByteArray.empty, .string ByteArray.empty, .bool false] 8 rfl (World.shaped_of_RefB (by kernel_rfl) (by kernel_rfl)) (by kernel_rfl) (by kernel_rfl) (by kernel_rfl) (door_met os _)) ?_
  intro W base args ds gs before hval0 hW _ _ hL _
  have hval : ∀ (j : Nat) t v, Ybgs.f3.params[j]? = some t → args[j]? = some v → Value.okWide Ybgs.prog W .any base t v := hval0
  have hW' := hW
  obtain ⟨p, q, hA0, hV0, rfl, hfz, hnd⟩ := hW
  have hA : DataW.TrodAll enc Ybgs.prog W 0 (fun _ => true) true Ybgs.f3.params.toList args.toList ds p := hA0
  have hV : DataW.TrodVars enc Ybgs.prog W (fun _ => true) [typesName] gs q := hV0
  rw [Ybgs.params3] at hA hval
  obtain ⟨v0, vs0, d0, ds0, p0, q0, hargs, rfl, rfl, h0, r0⟩ := trodAll_cons hA
  obtain ⟨v1, vs1, d1, ds1, p1, q1, rfl, rfl, rfl, h1, r1⟩ := trodAll_cons r0
  obtain ⟨v2, vs2, d2, ds2, p2, q2, rfl, rfl, rfl, h2, r2⟩ := trodAll_cons r1
  obtain ⟨v3, vs3, d3, ds3, p3, q3, rfl, rfl, rfl, h3, r3⟩ := trodAll_cons r2
  obtain ⟨v4, vs4, d4, ds4, p4, q4, rfl, rfl, rfl, h4, r4⟩ := trodAll_cons r3
  obtain ⟨v5, vs5, d5, ds5, p5, q5, rfl, rfl, rfl, h5, r5⟩ := trodAll_cons r4
  obtain ⟨rfl, rfl, rfl⟩ := trodAll_nil r5
  obtain rfl : args = #[v0, v1, v2, v3, v4, v5] := by cases args; simp_all
  obtain ⟨g, t, cs, fuel, d, p', rfl, hg, ht, hvar, hd, rfl⟩ := trodVars_one hV
  obtain rfl := Option.some.inj (gTypes.symm.trans hg)
  obtain rfl := Option.some.inj (tTypes.symm.trans ht)
  obtain ⟨a0, rfl, rfl, rfl⟩ := open_bool Ybgs.underlying4 (hval 0 4 v0 rfl rfl) h0
  obtain ⟨a1, rfl, rfl, rfl, w1⟩ := open_int Ybgs.underlying5 (hval 1 5 v1 rfl rfl) h1
  obtain ⟨a2, rfl, rfl, rfl, w2⟩ := open_string Ybgs.underlying9 (hval 2 9 v2 rfl rfl) h2
  obtain ⟨a3, rfl, rfl, rfl, w3⟩ := open_string Ybgs.underlying9 (hval 3 9 v3 rfl rfl) h3
  obtain ⟨a4, rfl, rfl, rfl, w4⟩ := open_string Ybgs.underlying9 (hval 4 9 v4 rfl rfl) h4
  obtain ⟨a5, rfl, rfl, rfl⟩ := open_bool Ybgs.underlying4 (hval 5 4 v5 rfl rfl) h5
  obtain ⟨tg, toff, tcap, hT⟩ := of_laid hL
  have hpos : 0 < W.heap.size := World.block_lt_of_cell? W ⟨0, 0, none⟩ hT.head
  clear hA0 hval0
  refine (law_walk a0 a1 a2 a3 a4 a5 tg toff tcap W hT (bounds_u8 w1)).mono fun e W' ⟨he, bel⟩ => ?_
  subst he
  exact ⟨_, rfl, _, _, _, [], _, _, hW', trodAll_mk1 (shut_bool Ybgs.underlying4 _), (trodAll_cons_mk (shut_bool Ybgs.underlying4 _) (trodAll_cons_mk (shut_int Ybgs.underlying5 w1) (trodAll_cons_mk (shut_string Ybgs.underlying9 w2) (trodAll_cons_mk (shut_string Ybgs.underlying9 w3) (trodAll_cons_mk (shut_string Ybgs.underlying9 w4) (trodAll_cons_mk (shut_bool Ybgs.underlying4 _) trodAll_mk0)))))), vars_again hvar hd hpos bel, bel.frame _, fun h => by cases h⟩

theorem over : Rows.LawS5656BWholeSaid :=
  OpenClaim.holds_of_wide 3 Ybgs.f3 rfl rfl rfl rfl rfl rfl rfl ⟨rfl, rfl, rfl, rfl, rfl⟩ rfl rfl rfl rfl rfl (by kernel_rfl) Ybgs.func3 (by kernel_rfl)
    (of_decide_eq_true (by kernel_rfl)) (by unfold Func.isWrapper; first | (rw [if_pos (by decide +kernel)]; kernel_rfl) | (rw [if_neg (by decide +kernel)]; exact ⟨rfl, rfl⟩))
    (fun os started H enc _ => lifted os started H enc)

/-- THE CARD -/
theorem proved : Rows.LawS5656BWholeCardSaid :=
  Claim7.holds_tied_plain_at .later [] [.data] true (true, "98dc9a9e1c9ffedd03e5ed67d577e8bcd202951c00527b251e8fbafaa24ca33e") false
    over (fun _ h => by cases h) (by kernel_rfl) (fun _ h => by cases h) lawS5656BWhole_row_tie rfl ⟨rfl, rfl⟩ (by kernel_rfl) rfl
    (fun f fn hf hfn => by
      obtain rfl : f = 3 := Option.some.inj ((show Ybgs.prog.funcNamed Rows.lawS5656BWholeRow.func = some 3 by kernel_rfl).symm.trans hf) |>.symm
      obtain rfl : fn = Ybgs.f3 := (Option.some.inj (Ybgs.func3.symm.trans hfn)).symm
      exact ⟨by kernel_rfl, fun j t ht => by
        rw [Ybgs.params3] at ht
        have hm : t ∈ [4, 5, 9, 9, 9, 4] := by simpa using Array.mem_of_getElem? ht
        have hall : ([4, 5, 9, 9, 9, 4].all fun u => !Ybgs.prog.wantsStandIn u) = true := by kernel_rfl
        exact (show Ybgs.prog.wantsStandIn t = false by simpa using List.all_eq_true.1 hall t hm)⟩)
    (by kernel_rfl)
end Go.Proofs.YbonelvqoDoor.lawS5656BWhole
