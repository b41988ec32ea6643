/-
  Seat b5656gsD, project tuoguan: the contracts of '(*Security).Pricing' (4) and 'zzs5656bmodel' (5), a theorem a way. My own text.
-/
import Derived.Test.YbonelvqoDoorProg
import Derived.WalkKit
import Derived.ProofKit
import Derived.OpenShut
import Derived.KernelRfl
import Derived.Deep.QuietTactic
import Derived.BigQuiet
namespace Go.Proofs.YbonelvqoDoor
open Go.ChangeShapes Go.WideShapes Go.ChangeAt Go.RowKit
set_option linter.unusedVariables false

/-- The table as the text lays it. -/
structure Table (w : World) (g off cap : Nat) : Prop where
  head : w.cell? ⟨0, 0, none⟩ = some (.slice (some ⟨g, off, none⟩) 3 cap)
  n0 : w.cell? ⟨g, off, none⟩ = some (.string ⟨#[115, 116, 111, 99, 107]⟩)
  p0 : w.cell? ⟨g, off + 1, none⟩ = some (.int .i64 0)
  n1 : w.cell? ⟨g, off + 2, none⟩ = some (.string ⟨#[98, 111, 110, 100]⟩)
  p1 : w.cell? ⟨g, off + 3, none⟩ = some (.int .i64 1)
  n2 : w.cell? ⟨g, off + 4, none⟩ = some (.string ⟨#[108, 105, 115, 116, 101, 100, 95, 102, 117, 110, 100]⟩)
  p2 : w.cell? ⟨g, off + 5, none⟩ = some (.int .i64 0)

set_option maxHeartbeats 400000 in
set_option maxRecDepth 100000 in
theorem pricing_nil (w : World) :
    Calls Ybgs.prog 4 #[.pointer none] w fun e w' => e = .returned (.int .i64 0) ∧ w' = w := by
  go_enter Ybgs.func4, Ybgs.ntmps4
  go_wp2
  go_ret
  exact ⟨rfl, rfl⟩

theorem below_dn {B : Nat} {w w' : World} (h : Below B w w') (d : Nat) : Below B w (w'.drewN d) := ⟨h.os, h.tape, h.output, h.size, h.block⟩

set_option maxHeartbeats 400000 in
set_option maxRecDepth 100000 in
theorem pricing_stock (b g off cap : Nat) (t : ByteArray) (w : World) (hT : Table w g off cap) (hb : w.cell? ⟨b, 1, none⟩ = some (.string t)) (h0 : (t.toList == [115, 116, 111, 99, 107]) = true) :
    Calls Ybgs.prog 4 #[.pointer (some ⟨b, 0, none⟩)] w fun e w' => e = .returned (.int .i64 0) ∧ Below w.heap.size w w' := by
  obtain ⟨head, n0, p0, n1, p1, n2, p2⟩ := hT
  have m1 := World.block_lt_of_cell? w ⟨b, 1, none⟩ hb
  have m2 := World.block_lt_of_cell? w ⟨g, off, none⟩ n0
  simp only at m1 m2
  have m1a : b < w.heap.size + 1 := by omega
  have m1b : b < w.heap.size + 1 + 1 := by omega
  have m2a : g < w.heap.size + 1 := by omega
  have m2b : g < w.heap.size + 1 + 1 := by omega
  go_enter Ybgs.func4, Ybgs.ntmps4
  go_wp2
  refine wp_loop_rounds 4 ?_
  rw [rounds_succ]
  go_wp2
  go_quiet (fail)
  go_wp2
  go_ret
  exact ⟨rfl, by repeat (first | exact Below.refl _ _ | exact below_dn (Below.refl _ _) _ | apply below_dn | apply Below.drew | refine Below.alloc ?_ (by simp; omega) _ | refine Below.alloc ?_ (by simp) _)⟩

set_option maxHeartbeats 400000 in
set_option maxRecDepth 100000 in
theorem pricing_bond (b g off cap : Nat) (t : ByteArray) (w : World) (hT : Table w g off cap) (hb : w.cell? ⟨b, 1, none⟩ = some (.string t)) (h0 : (t.toList == [115, 116, 111, 99, 107]) = false) (h1 : (t.toList == [98, 111, 110, 100]) = true) :
    Calls Ybgs.prog 4 #[.pointer (some ⟨b, 0, none⟩)] w fun e w' => e = .returned (.int .i64 1) ∧ Below w.heap.size w w' := by
  obtain ⟨head, n0, p0, n1, p1, n2, p2⟩ := hT
  have m1 := World.block_lt_of_cell? w ⟨b, 1, none⟩ hb
  have m2 := World.block_lt_of_cell? w ⟨g, off, none⟩ n0
  simp only at m1 m2
  have m1a : b < w.heap.size + 1 := by omega
  have m1b : b < w.heap.size + 1 + 1 := by omega
  have m2a : g < w.heap.size + 1 := by omega
  have m2b : g < w.heap.size + 1 + 1 := by omega
  go_enter Ybgs.func4, Ybgs.ntmps4
  go_wp2
  refine wp_loop_rounds 4 ?_
  rw [rounds_succ]
  go_wp2
  go_quiet (fail)
  go_wp2
  rw [rounds_succ]
  go_wp2
  go_quiet (fail)
  go_wp2
  go_ret
  exact ⟨rfl, by repeat (first | exact Below.refl _ _ | exact below_dn (Below.refl _ _) _ | apply below_dn | apply Below.drew | refine Below.alloc ?_ (by simp; omega) _ | refine Below.alloc ?_ (by simp) _)⟩

set_option maxHeartbeats 400000 in
set_option maxRecDepth 100000 in
theorem pricing_fund (b g off cap : Nat) (t : ByteArray) (w : World) (hT : Table w g off cap) (hb : w.cell? ⟨b, 1, none⟩ = some (.string t)) (h0 : (t.toList == [115, 116, 111, 99, 107]) = false) (h1 : (t.toList == [98, 111, 110, 100]) = false) (h2 : (t.toList == [108, 105, 115, 116, 101, 100, 95, 102, 117, 110, 100]) = true) :
    Calls Ybgs.prog 4 #[.pointer (some ⟨b, 0, none⟩)] w fun e w' => e = .returned (.int .i64 0) ∧ Below w.heap.size w w' := by
  obtain ⟨head, n0, p0, n1, p1, n2, p2⟩ := hT
  have m1 := World.block_lt_of_cell? w ⟨b, 1, none⟩ hb
  have m2 := World.block_lt_of_cell? w ⟨g, off, none⟩ n0
  simp only at m1 m2
  have m1a : b < w.heap.size + 1 := by omega
  have m1b : b < w.heap.size + 1 + 1 := by omega
  have m2a : g < w.heap.size + 1 := by omega
  have m2b : g < w.heap.size + 1 + 1 := by omega
  go_enter Ybgs.func4, Ybgs.ntmps4
  go_wp2
  refine wp_loop_rounds 4 ?_
  rw [rounds_succ]
  go_wp2
  go_quiet (fail)
  go_wp2
  rw [rounds_succ]
  go_wp2
  go_quiet (fail)
  go_wp2
  rw [rounds_succ]
  go_wp2
  go_quiet (fail)
  go_wp2
  go_ret
  exact ⟨rfl, by repeat (first | exact Below.refl _ _ | exact below_dn (Below.refl _ _) _ | apply below_dn | apply Below.drew | refine Below.alloc ?_ (by simp; omega) _ | refine Below.alloc ?_ (by simp) _)⟩

set_option maxHeartbeats 400000 in
set_option maxRecDepth 100000 in
theorem pricing_else (b g off cap : Nat) (t : ByteArray) (w : World) (hT : Table w g off cap) (hb : w.cell? ⟨b, 1, none⟩ = some (.string t)) (h0 : (t.toList == [115, 116, 111, 99, 107]) = false) (h1 : (t.toList == [98, 111, 110, 100]) = false) (h2 : (t.toList == [108, 105, 115, 116, 101, 100, 95, 102, 117, 110, 100]) = false) :
    Calls Ybgs.prog 4 #[.pointer (some ⟨b, 0, none⟩)] w fun e w' => e = .returned (.int .i64 0) ∧ Below w.heap.size w w' := by
  obtain ⟨head, n0, p0, n1, p1, n2, p2⟩ := hT
  have m1 := World.block_lt_of_cell? w ⟨b, 1, none⟩ hb
  have m2 := World.block_lt_of_cell? w ⟨g, off, none⟩ n0
  simp only at m1 m2
  have m1a : b < w.heap.size + 1 := by omega
  have m1b : b < w.heap.size + 1 + 1 := by omega
  have m2a : g < w.heap.size + 1 := by omega
  have m2b : g < w.heap.size + 1 + 1 := by omega
  go_enter Ybgs.func4, Ybgs.ntmps4
  go_wp2
  refine wp_loop_rounds 4 ?_
  rw [rounds_succ]
  go_wp2
  go_quiet (fail)
  go_wp2
  rw [rounds_succ]
  go_wp2
  go_quiet (fail)
  go_wp2
  rw [rounds_succ]
  go_wp2
  go_quiet (fail)
  go_wp2
  rw [rounds_succ]
  go_wp2
  go_ret
  exact ⟨rfl, by repeat (first | exact Below.refl _ _ | exact below_dn (Below.refl _ _) _ | apply below_dn | apply Below.drew | refine Below.alloc ?_ (by simp; omega) _ | refine Below.alloc ?_ (by simp) _)⟩

theorem model_stock (t : ByteArray) (w : World) (h0 : (t.toList == [115, 116, 111, 99, 107]) = true) :
    Calls Ybgs.prog 5 #[.string t] w fun e w' => e = .returned (.int .i64 0) ∧ w' = w := by
  go_enter Ybgs.func5, Ybgs.ntmps5
  go_wp2
  go_ret
  exact ⟨rfl, rfl⟩
theorem model_bond (t : ByteArray) (w : World) (h0 : (t.toList == [115, 116, 111, 99, 107]) = false) (h1 : (t.toList == [98, 111, 110, 100]) = true) :
    Calls Ybgs.prog 5 #[.string t] w fun e w' => e = .returned (.int .i64 1) ∧ w' = w := by
  go_enter Ybgs.func5, Ybgs.ntmps5
  go_wp2
  go_ret
  exact ⟨rfl, rfl⟩
theorem model_else (t : ByteArray) (w : World) (h0 : (t.toList == [115, 116, 111, 99, 107]) = false) (h1 : (t.toList == [98, 111, 110, 100]) = false) :
    Calls Ybgs.prog 5 #[.string t] w fun e w' => e = .returned (.int .i64 0) ∧ w' = w := by
  go_enter Ybgs.func5, Ybgs.ntmps5
  go_wp2
  go_ret
  exact ⟨rfl, rfl⟩

/-- What a security of type t is valued at, as both functions say. -/
theorem both (t : ByteArray) : ∃ v : Int, (∀ (b g off cap : Nat) (w : World), Table w g off cap → w.cell? ⟨b, 1, none⟩ = some (.string t) → Calls Ybgs.prog 4 #[.pointer (some ⟨b, 0, none⟩)] w fun e w' => e = .returned (.int .i64 v) ∧ Below w.heap.size w w') ∧
    (∀ w : World, Calls Ybgs.prog 5 #[.string t] w fun e w' => e = .returned (.int .i64 v) ∧ w' = w) := by
  cases h0 : (t.toList == [115, 116, 111, 99, 107]) with
  | true => exact ⟨0, fun b g off cap w hT hb => pricing_stock b g off cap t w hT hb h0, fun w => model_stock t w h0⟩
  | false =>
    cases h1 : (t.toList == [98, 111, 110, 100]) with
    | true => exact ⟨1, fun b g off cap w hT hb => pricing_bond b g off cap t w hT hb h0 h1, fun w => model_bond t w h0 h1⟩
    | false =>
      cases h2 : (t.toList == [108, 105, 115, 116, 101, 100, 95, 102, 117, 110, 100]) with
      | true => exact ⟨0, fun b g off cap w hT hb => pricing_fund b g off cap t w hT hb h0 h1 h2, fun w => model_else t w h0 h1⟩
      | false => exact ⟨0, fun b g off cap w hT hb => pricing_else b g off cap t w hT hb h0 h1 h2, fun w => model_else t w h0 h1⟩

theorem Table.kept {w w' : World} {g off cap : Nat} (h : Table w g off cap) (hc : ∀ b o, b < w.heap.size → w'.cell? ⟨b, o, none⟩ = w.cell? ⟨b, o, none⟩) : Table w' g off cap := by
  have k0 := World.block_lt_of_cell? w ⟨0, 0, none⟩ h.head
  have k1 := World.block_lt_of_cell? w ⟨g, off, none⟩ h.n0
  exact ⟨(hc _ _ k0).trans h.head, (hc _ _ k1).trans h.n0, (hc _ _ k1).trans h.p0, (hc _ _ k1).trans h.n1, (hc _ _ k1).trans h.p1, (hc _ _ k1).trans h.n2, (hc _ _ k1).trans h.p2⟩
end Go.Proofs.YbonelvqoDoor
