/-
  Seat b5653a, project quillet: the contracts of '(*parser).slot' (7) and 'zzs5653bval' (6). My own text.
-/
import Derived.Test.YbulkdmayProg
import Derived.Maps.OwnSet
import Derived.WalkKit
import Derived.ProofKit
import Derived.OpenShut
import Derived.KernelRfl
namespace Go.Proofs.Ybulkdmay
open Go.ChangeShapes Go.WideShapes Go.ChangeAt Go.RowKit Go.Maps Go.WideMaps
set_option linter.unusedVariables false

theorem law9 : Keyed Yba.prog 9 := string_keyed Yba.underlying9
theorem zero3 (w : World) : (zeroValue 3).run Yba.prog w = .ok (.int .i64 0) w := by kernel_rfl

set_option maxHeartbeats 400000 in
set_option maxRecDepth 100000 in
/-- The name is there: its number, and nothing turns. -/
theorem slot_there (sb bm n : Nat) (D : DataW Unit) (s : ByteArray) (w : World) (hs : s.size ≤ maxLen) (c0 : w.cell? ⟨sb, 23, none⟩ = some (.map (some bm)))
    (hown : w.ownsMap Yba.prog 9 (plainElem Yba.prog 3) bm n D) (hh : Maps.has D (.string s.data.toList) = true) (c : Int) (hc : D.atKey (.string s.data.toList) (.lit (.int .i64 0)) = .lit (.int .i64 c)) :
    Calls Yba.prog 7 #[.pointer (some ⟨sb, 0, none⟩), .string s] w fun e w' => e = .returned (.int .i64 c) ∧ w' = w := by
  have hkey := keyOf_string_mk Yba.underlying9 hs
  have HC : Hid _ := hc
  clear hc
  go_enter Yba.func7, Yba.ntmps7
  go_wp2_with (first
    | (at_lookup; refine wpList_lookup_own_ok_int _ rfl _ _ 24 rfl 9 3 .i64 law9 Yba.underlying24 Yba.underlying3 (zero3 _) bm n D rfl hown _ _ rfl hkey ?_; intro c2 hat hwc)
    | fail)
  go_ret
  have e : c2 = c := by
    have := hat.symm.trans HC.out
    injection this with e1
    injection e1
  rw [← e]
  exact ⟨rfl, rfl⟩

set_option maxHeartbeats 400000 in
set_option maxRecDepth 100000 in
/-- The name is new: it takes the next number. -/
theorem slot_new (sb bm n : Nat) (D : DataW Unit) (s : ByteArray) (w : World) (hs : s.size ≤ maxLen) (c0 : w.cell? ⟨sb, 23, none⟩ = some (.map (some bm)))
    (hown : w.ownsMap Yba.prog 9 (plainElem Yba.prog 3) bm n D) (hn : n < 1000000) (hh : Maps.has D (.string s.data.toList) = false) :
    Calls Yba.prog 7 #[.pointer (some ⟨sb, 0, none⟩), .string s] w fun e w' => e = .returned (.int .i64 (Maps.size D)) ∧ w'.ownsMap Yba.prog 9 (plainElem Yba.prog 3) bm (n + 1) (D.put (.string s.data.toList) (.lit (.int .i64 (Maps.size D)))) ∧ w.mapTurned w' bm := by
  have hkey := keyOf_string_mk Yba.underlying9 hs
  have hsz := hown.size_le
  go_enter Yba.func7, Yba.ntmps7
  go_wp2_with (first
    | (at_lookup; refine wpList_lookup_own_ok_int _ rfl _ _ 24 rfl 9 3 .i64 law9 Yba.underlying24 Yba.underlying3 (zero3 _) bm n D rfl hown _ _ rfl hkey ?_; intro c hat hwc)
    | (at_len; refine wpList_len_own _ rfl _ 24 rfl 9 3 Yba.underlying24 (plainElem Yba.prog 3) bm n D rfl hown ?_)
    | (at_mapUpdate; refine wpList_mapUpdate_in _ rfl _ _ _ 24 rfl 9 3 law9 Yba.underlying24 (plainElem Yba.prog 3) bm n D rfl hown (by unfold maxLen; omega) _ _ _ rfl rfl hkey _ [] (plainElem_int Yba.underlying3 (WalkArith.wf_i64 (by omega))) ?_; intro w1 hown1 hturn1)
    | fail)
  go_ret
  exact ⟨rfl, hown1, hturn1⟩

/-- 'zzs5653bval': the value at i, or i. -/
theorem val_in (a : Option Addr) (b off len cap : Nat) (k : Nat) (z : Int) (w : World) (hl : len ≤ 9223372036854775807) (hk : k < len) (c0 : w.cell? ⟨b, off + k, none⟩ = some (.int .i64 z)) :
    Calls Yba.prog 6 #[.slice (some ⟨b, off, none⟩) len cap, .int .i64 k] w fun e w' => e = .returned (.int .i64 z) ∧ w' = w := by
  go_enter Yba.func6, Yba.ntmps6
  go_wp2
  go_ret
  exact ⟨rfl, rfl⟩
theorem val_out (a : Option Addr) (len cap : Nat) (k : Nat) (w : World) (hk : len ≤ k) :
    Calls Yba.prog 6 #[.slice a len cap, .int .i64 k] w fun e w' => e = .returned (.int .i64 k) ∧ w' = w := by
  go_enter Yba.func6, Yba.ntmps6
  go_wp2
  go_ret
  exact ⟨rfl, rfl⟩
end Go.Proofs.Ybulkdmay
