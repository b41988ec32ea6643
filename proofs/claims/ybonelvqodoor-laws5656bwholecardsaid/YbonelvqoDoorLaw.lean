/-
  Seat b5656gsD, project tuoguan: the walk of 'LawS5656BWhole', a theorem a way. My own text.
-/
import Derived.Test.YbonelvqoDoorPricing
namespace Go.Proofs.YbonelvqoDoor
open Go.ChangeShapes Go.WideShapes Go.ChangeAt Go.RowKit
set_option linter.unusedVariables false

theorem after {w w1 : World} (c0 c1 c2 c3 : Value) (hb1 : Below ((w.alloc (.cells #[c0, c1, c2, c3] 26)).alloc (.cells #[c0, c1, c2, c3] 26)).heap.size ((w.alloc (.cells #[c0, c1, c2, c3] 26)).alloc (.cells #[c0, c1, c2, c3] 26)) w1) :
    ((w1.cell? ⟨w.heap.size, 0, none⟩ = some c0 ∧ w1.cell? ⟨w.heap.size, 1, none⟩ = some c1 ∧ w1.cell? ⟨w.heap.size, 2, none⟩ = some c2 ∧ w1.cell? ⟨w.heap.size, 3, none⟩ = some c3) ∧
     (w1.cell? ⟨w.heap.size + 1, 0, none⟩ = some c0 ∧ w1.cell? ⟨w.heap.size + 1, 1, none⟩ = some c1 ∧ w1.cell? ⟨w.heap.size + 1, 2, none⟩ = some c2 ∧ w1.cell? ⟨w.heap.size + 1, 3, none⟩ = some c3)) ∧ Below w.heap.size w w1 := by
  have e1 : (w.alloc (.cells #[c0, c1, c2, c3] 26)).heap.size = w.heap.size + 1 := by simp
  have e2 : ((w.alloc (.cells #[c0, c1, c2, c3] 26)).alloc (.cells #[c0, c1, c2, c3] 26)).heap.size = w.heap.size + 1 + 1 := by simp
  have f1 : ∀ j, w1.cell? ⟨w.heap.size, j, none⟩ = #[c0, c1, c2, c3][j]? := fun j => by
    rw [hb1.cell (p := ⟨w.heap.size, j, none⟩) (by show w.heap.size < _; omega), World.cell?_alloc_past _ _ _ (by omega), World.cell?_alloc_at _ _ _ _ rfl]
  have f2 : ∀ j, w1.cell? ⟨w.heap.size + 1, j, none⟩ = #[c0, c1, c2, c3][j]? := fun j => by
    rw [hb1.cell (p := ⟨w.heap.size + 1, j, none⟩) (by show w.heap.size + 1 < _; omega), World.cell?_alloc_at _ _ _ _ e1.symm]
  exact ⟨⟨⟨f1 0, f1 1, f1 2, f1 3⟩, ⟨f2 0, f2 1, f2 2, f2 3⟩⟩, (((Below.refl w.heap.size w).alloc (Nat.le_refl _) _).alloc (by omega) _).trans (hb1.mono (by omega))⟩

set_option maxHeartbeats 400000 in
set_option maxRecDepth 100000 in
theorem law_0 (sel : Int) (sym typ iss : ByteArray) (sole : Bool) (g off cap : Nat) (w : World) (hT : Table w g off cap) (hs : 0 ≤ sel ∧ sel ≤ 255) (hk : sel % 5 = 0) :
    Calls Ybgs.prog 3 #[.bool false, .int .u8 sel, .string sym, .string typ, .string iss, .bool sole] w fun e w' => e = .returned (.bool true) ∧ Below w.heap.size w w' := by
  obtain ⟨v, hP, hM⟩ := both ⟨#[115, 116, 111, 99, 107]⟩
  have HP : Hid _ := hP
  have HM : Hid _ := hM
  have HT : Hid (Table w g off cap) := hT
  clear hP hM hT
  go_enter Ybgs.func3, Ybgs.ntmps3
  go_wp2_with fail
  refine (HP.out w.heap.size g off cap _ (Table.kept HT.out (fun b o hb => by rw [World.cell?_alloc_past _ _ _ (by simp; omega), World.cell?_alloc_past _ _ _ hb])) (by rw [World.cell?_alloc_past _ _ _ (by simp), World.cell?_alloc_at _ _ _ _ rfl]; rfl)).mono ?_
  rintro e w1 ⟨rfl, hb1⟩
  obtain ⟨⟨⟨x0, x1, x2, x3⟩, ⟨y0, y1, y2, y3⟩⟩, hb2⟩ := after _ _ _ _ hb1
  clear hb1
  go_wp2
  go_quiet (fail)
  go_wp2_with fail
  refine (HM.out _).mono ?_
  rintro e w2 ⟨rfl, rfl⟩
  go_wp2
  go_ret
  exact ⟨rfl, below_dn hb2 _⟩
set_option maxHeartbeats 400000 in
set_option maxRecDepth 100000 in
theorem law_1 (sel : Int) (sym typ iss : ByteArray) (sole : Bool) (g off cap : Nat) (w : World) (hT : Table w g off cap) (hs : 0 ≤ sel ∧ sel ≤ 255) (hk : sel % 5 = 1) :
    Calls Ybgs.prog 3 #[.bool false, .int .u8 sel, .string sym, .string typ, .string iss, .bool sole] w fun e w' => e = .returned (.bool true) ∧ Below w.heap.size w w' := by
  obtain ⟨v, hP, hM⟩ := both ⟨#[98, 111, 110, 100]⟩
  have HP : Hid _ := hP
  have HM : Hid _ := hM
  have HT : Hid (Table w g off cap) := hT
  clear hP hM hT
  go_enter Ybgs.func3, Ybgs.ntmps3
  go_wp2_with fail
  refine (HP.out w.heap.size g off cap _ (Table.kept HT.out (fun b o hb => by rw [World.cell?_alloc_past _ _ _ (by simp; omega), World.cell?_alloc_past _ _ _ hb])) (by rw [World.cell?_alloc_past _ _ _ (by simp), World.cell?_alloc_at _ _ _ _ rfl]; rfl)).mono ?_
  rintro e w1 ⟨rfl, hb1⟩
  obtain ⟨⟨⟨x0, x1, x2, x3⟩, ⟨y0, y1, y2, y3⟩⟩, hb2⟩ := after _ _ _ _ hb1
  clear hb1
  go_wp2
  go_quiet (fail)
  go_wp2_with fail
  refine (HM.out _).mono ?_
  rintro e w2 ⟨rfl, rfl⟩
  go_wp2
  go_ret
  exact ⟨rfl, below_dn hb2 _⟩
set_option maxHeartbeats 400000 in
set_option maxRecDepth 100000 in
theorem law_2 (sel : Int) (sym typ iss : ByteArray) (sole : Bool) (g off cap : Nat) (w : World) (hT : Table w g off cap) (hs : 0 ≤ sel ∧ sel ≤ 255) (hk : sel % 5 = 2) :
    Calls Ybgs.prog 3 #[.bool false, .int .u8 sel, .string sym, .string typ, .string iss, .bool sole] w fun e w' => e = .returned (.bool true) ∧ Below w.heap.size w w' := by
  obtain ⟨v, hP, hM⟩ := both ⟨#[108, 105, 115, 116, 101, 100, 95, 102, 117, 110, 100]⟩
  have HP : Hid _ := hP
  have HM : Hid _ := hM
  have HT : Hid (Table w g off cap) := hT
  clear hP hM hT
  go_enter Ybgs.func3, Ybgs.ntmps3
  go_wp2_with fail
  refine (HP.out w.heap.size g off cap _ (Table.kept HT.out (fun b o hb => by rw [World.cell?_alloc_past _ _ _ (by simp; omega), World.cell?_alloc_past _ _ _ hb])) (by rw [World.cell?_alloc_past _ _ _ (by simp), World.cell?_alloc_at _ _ _ _ rfl]; rfl)).mono ?_
  rintro e w1 ⟨rfl, hb1⟩
  obtain ⟨⟨⟨x0, x1, x2, x3⟩, ⟨y0, y1, y2, y3⟩⟩, hb2⟩ := after _ _ _ _ hb1
  clear hb1
  go_wp2
  go_quiet (fail)
  go_wp2_with fail
  refine (HM.out _).mono ?_
  rintro e w2 ⟨rfl, rfl⟩
  go_wp2
  go_ret
  exact ⟨rfl, below_dn hb2 _⟩
set_option maxHeartbeats 400000 in
set_option maxRecDepth 100000 in
theorem law_3 (sel : Int) (sym typ iss : ByteArray) (sole : Bool) (g off cap : Nat) (w : World) (hT : Table w g off cap) (hs : 0 ≤ sel ∧ sel ≤ 255) (hk : sel % 5 = 3) :
    Calls Ybgs.prog 3 #[.bool false, .int .u8 sel, .string sym, .string typ, .string iss, .bool sole] w fun e w' => e = .returned (.bool true) ∧ Below w.heap.size w w' := by
  obtain ⟨v, hP, hM⟩ := both ⟨#[]⟩
  have HP : Hid _ := hP
  have HM : Hid _ := hM
  have HT : Hid (Table w g off cap) := hT
  clear hP hM hT
  go_enter Ybgs.func3, Ybgs.ntmps3
  go_wp2_with fail
  refine (HP.out w.heap.size g off cap _ (Table.kept HT.out (fun b o hb => by rw [World.cell?_alloc_past _ _ _ (by simp; omega), World.cell?_alloc_past _ _ _ hb])) (by rw [World.cell?_alloc_past _ _ _ (by simp), World.cell?_alloc_at _ _ _ _ rfl]; rfl)).mono ?_
  rintro e w1 ⟨rfl, hb1⟩
  obtain ⟨⟨⟨x0, x1, x2, x3⟩, ⟨y0, y1, y2, y3⟩⟩, hb2⟩ := after _ _ _ _ hb1
  clear hb1
  go_wp2
  go_quiet (fail)
  go_wp2_with fail
  refine (HM.out _).mono ?_
  rintro e w2 ⟨rfl, rfl⟩
  go_wp2
  go_ret
  exact ⟨rfl, below_dn hb2 _⟩
set_option maxHeartbeats 400000 in
set_option maxRecDepth 100000 in
theorem law_4 (sel : Int) (sym typ iss : ByteArray) (sole : Bool) (g off cap : Nat) (w : World) (hT : Table w g off cap) (hs : 0 ≤ sel ∧ sel ≤ 255) (hk : sel % 5 = 4) :
    Calls Ybgs.prog 3 #[.bool false, .int .u8 sel, .string sym, .string typ, .string iss, .bool sole] w fun e w' => e = .returned (.bool true) ∧ Below w.heap.size w w' := by
  obtain ⟨v, hP, hM⟩ := both typ
  have HP : Hid _ := hP
  have HM : Hid _ := hM
  have HT : Hid (Table w g off cap) := hT
  clear hP hM hT
  go_enter Ybgs.func3, Ybgs.ntmps3
  go_wp2_with fail
  refine (HP.out w.heap.size g off cap _ (Table.kept HT.out (fun b o hb => by rw [World.cell?_alloc_past _ _ _ (by simp; omega), World.cell?_alloc_past _ _ _ hb])) (by rw [World.cell?_alloc_past _ _ _ (by simp), World.cell?_alloc_at _ _ _ _ rfl]; rfl)).mono ?_
  rintro e w1 ⟨rfl, hb1⟩
  obtain ⟨⟨⟨x0, x1, x2, x3⟩, ⟨y0, y1, y2, y3⟩⟩, hb2⟩ := after _ _ _ _ hb1
  clear hb1
  go_wp2
  go_quiet (fail)
  go_wp2_with fail
  refine (HM.out _).mono ?_
  rintro e w2 ⟨rfl, rfl⟩
  go_wp2
  go_ret
  exact ⟨rfl, below_dn hb2 _⟩
set_option maxHeartbeats 400000 in
set_option maxRecDepth 100000 in
theorem law_nil (sel : Int) (sym typ iss : ByteArray) (sole : Bool) (w : World) :
    Calls Ybgs.prog 3 #[.bool true, .int .u8 sel, .string sym, .string typ, .string iss, .bool sole] w fun e w' => e = .returned (.bool true) ∧ Below w.heap.size w w' := by
  go_enter Ybgs.func3, Ybgs.ntmps3
  go_wp2_with fail
  refine (pricing_nil _).mono ?_
  rintro e w1 ⟨rfl, rfl⟩
  go_wp2
  go_ret
  exact ⟨rfl, Below.refl _ _⟩

theorem law_walk (isNil : Bool) (sel : Int) (sym typ iss : ByteArray) (sole : Bool) (g off cap : Nat) (w : World) (hT : Table w g off cap) (hs : 0 ≤ sel ∧ sel ≤ 255) :
    Calls Ybgs.prog 3 #[.bool isNil, .int .u8 sel, .string sym, .string typ, .string iss, .bool sole] w fun e w' => e = .returned (.bool true) ∧ Below w.heap.size w w' := by
  cases isNil with
  | true => exact law_nil sel sym typ iss sole w
  | false =>
    rcases (show sel % 5 = 0 ∨ sel % 5 = 1 ∨ sel % 5 = 2 ∨ sel % 5 = 3 ∨ sel % 5 = 4 by omega) with h | h | h | h | h
    · exact law_0 sel sym typ iss sole g off cap w hT hs h
    · exact law_1 sel sym typ iss sole g off cap w hT hs h
    · exact law_2 sel sym typ iss sole g off cap w hT hs h
    · exact law_3 sel sym typ iss sole g off cap w hT hs h
    · exact law_4 sel sym typ iss sole g off cap w hT hs h
end Go.Proofs.YbonelvqoDoor
