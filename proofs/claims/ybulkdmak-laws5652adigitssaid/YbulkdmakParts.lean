/-
  Seat b5652a, project sealpost: the contracts of 'isDigit', 'unescape' and 'zzs5652amodel', a theorem a way. My own text.
-/
import Derived.Test.YbulkdmakProg
import Derived.WalkKit
import Derived.ProofKit
import Derived.OpenShut
import Derived.ShutString
import Derived.KernelRfl
import Derived.Deep.QuietTactic
import Derived.BigQuiet
namespace Go.Proofs.Ybulkdmak
open Go.ChangeShapes Go.WideShapes Go.ChangeAt Go.RowKit

set_option linter.unusedVariables false
theorem digit_yes (c : Int) (h0 : 48 ≤ c) (h1 : c ≤ 57) (w : World) :
    Calls Yba.prog 9 #[.int .u8 c] w fun e w' => e = .returned (.bool true) ∧ w' = w := by
  go_enter Yba.func9, Yba.ntmps9
  go_wp2
  go_ret
  exact ⟨by simp, rfl⟩
theorem digit_no (c : Int) (h1 : c < 48 ∨ 57 < c) (w : World) :
    Calls Yba.prog 9 #[.int .u8 c] w fun e w' => e = .returned (.bool false) ∧ w' = w := by
  go_enter Yba.func9, Yba.ntmps9
  go_wp2
  all_goals go_ret
  all_goals exact ⟨by first | rfl | (congr 2; simp; omega), rfl⟩

theorem unescA (s : ByteArray) (n : Nat) (w : World) (hs : s.size ≤ maxLen) (hn : (n : Int) ≤ 1099511627776) (h1 : s.size ≤ n + 1) :
    Calls Yba.prog 6 #[.string s, .int .i64 n] w fun e w' => e = .returned (.tuple #[.int .u8 0, .int .i64 0, .iface 34 (.pointer (some ⟨w.heap.size, 0, none⟩))]) ∧ Grown w w' := by
  unfold maxLen at hs
  go_enter Yba.func6, Yba.ntmps6
  go_wp2
  go_ret3
  exact ⟨rfl, by repeat (first | exact Grown.refl _ | apply Grown.drew | apply Grown.alloc)⟩

theorem unescB (s : ByteArray) (n : Nat) (w : World) (hs : s.size ≤ maxLen) (hn : (n : Int) ≤ 1099511627776) (h1 : n + 1 < s.size)
    (d1 : (s[n + 1].toNat : Int) < 48 ∨ 57 < (s[n + 1].toNat : Int)) :
    Calls Yba.prog 6 #[.string s, .int .i64 n] w fun e w' => e = .returned (.tuple #[.int .u8 s[n + 1].toNat, .int .i64 (n + 1), .nilIface]) ∧ Grown w w' := by
  unfold maxLen at hs
  go_enter Yba.func6, Yba.ntmps6
  go_wp2_with (go_at_call 9; refine (digit_no _ d1 _).mono ?_; rintro e w' ⟨rfl, rfl⟩)
  go_ret3
  exact ⟨rfl, by repeat (first | exact Grown.refl _ | apply Grown.drew | apply Grown.alloc)⟩

theorem unescC1 (s : ByteArray) (n : Nat) (w : World) (hs : s.size ≤ maxLen) (hn : (n : Int) ≤ 1099511627776) (h1 : n + 1 < s.size)
    (d1 : 48 ≤ (s[n + 1].toNat : Int)) (e1 : (s[n + 1].toNat : Int) ≤ 57) (h3 : s.size ≤ n + 3) :
    Calls Yba.prog 6 #[.string s, .int .i64 n] w fun e w' => e = .returned (.tuple #[.int .u8 0, .int .i64 0, .iface 34 (.pointer (some ⟨w.heap.size, 0, none⟩))]) ∧ Grown w w' := by
  unfold maxLen at hs
  go_enter Yba.func6, Yba.ntmps6
  go_wp2_with (first | (go_at_call 9; refine (digit_yes _ d1 e1 _).mono ?_; rintro e w' ⟨rfl, rfl⟩) | go_in)
  go_ret3
  exact ⟨rfl, by repeat (first | exact Grown.refl _ | apply Grown.drew | apply Grown.alloc)⟩

theorem unescC2 (s : ByteArray) (n : Nat) (w : World) (hs : s.size ≤ maxLen) (hn : (n : Int) ≤ 1099511627776) (h1 : n + 1 < s.size)
    (d1 : 48 ≤ (s[n + 1].toNat : Int)) (e1 : (s[n + 1].toNat : Int) ≤ 57) (h3 : n + 3 < s.size)
    (d2 : (s[n + 2].toNat : Int) < 48 ∨ 57 < (s[n + 2].toNat : Int)) :
    Calls Yba.prog 6 #[.string s, .int .i64 n] w fun e w' => e = .returned (.tuple #[.int .u8 0, .int .i64 0, .iface 34 (.pointer (some ⟨w.heap.size, 0, none⟩))]) ∧ Grown w w' := by
  unfold maxLen at hs
  go_enter Yba.func6, Yba.ntmps6
  go_wp2_with fail
  refine (digit_yes _ d1 e1 _).mono ?_; rintro e w' ⟨rfl, rfl⟩
  go_wp2_with fail
  refine (digit_no _ d2 _).mono ?_; rintro e w' ⟨rfl, rfl⟩
  go_wp2
  go_ret3
  exact ⟨rfl, by repeat (first | exact Grown.refl _ | apply Grown.drew | apply Grown.alloc)⟩

theorem unescC3 (s : ByteArray) (n : Nat) (w : World) (hs : s.size ≤ maxLen) (hn : (n : Int) ≤ 1099511627776) (h1 : n + 1 < s.size)
    (d1 : 48 ≤ (s[n + 1].toNat : Int)) (e1 : (s[n + 1].toNat : Int) ≤ 57) (h3 : n + 3 < s.size)
    (d2 : 48 ≤ (s[n + 2].toNat : Int)) (e2 : (s[n + 2].toNat : Int) ≤ 57) 
    (d3 : (s[n + 3].toNat : Int) < 48 ∨ 57 < (s[n + 3].toNat : Int)) :
    Calls Yba.prog 6 #[.string s, .int .i64 n] w fun e w' => e = .returned (.tuple #[.int .u8 0, .int .i64 0, .iface 34 (.pointer (some ⟨w.heap.size, 0, none⟩))]) ∧ Grown w w' := by
  unfold maxLen at hs
  go_enter Yba.func6, Yba.ntmps6
  go_wp2_with fail
  refine (digit_yes _ d1 e1 _).mono ?_; rintro e w' ⟨rfl, rfl⟩
  go_wp2_with fail
  refine (digit_yes _ d2 e2 _).mono ?_; rintro e w' ⟨rfl, rfl⟩
  go_wp2_with fail
  refine (digit_no _ d3 _).mono ?_; rintro e w' ⟨rfl, rfl⟩
  go_wp2
  go_ret3
  exact ⟨rfl, by repeat (first | exact Grown.refl _ | apply Grown.drew | apply Grown.alloc)⟩

set_option maxHeartbeats 400000 in
theorem unescD (s : ByteArray) (n : Nat) (w : World) (hs : s.size ≤ maxLen) (hn : (n : Int) ≤ 1099511627776) (h1 : n + 1 < s.size)
    (d1 : 48 ≤ (s[n + 1].toNat : Int)) (e1 : (s[n + 1].toNat : Int) ≤ 57) (h3 : n + 3 < s.size)
    (d2 : 48 ≤ (s[n + 2].toNat : Int)) (e2 : (s[n + 2].toNat : Int) ≤ 57) 
    (d3 : 48 ≤ (s[n + 3].toNat : Int)) (e3 : (s[n + 3].toNat : Int) ≤ 57) 
    (hv : 255 < ((s[n + 1].toNat : Int) - 48) * 100 + ((s[n + 2].toNat : Int) - 48) * 10 + ((s[n + 3].toNat : Int) - 48)):
    Calls Yba.prog 6 #[.string s, .int .i64 n] w fun e w' => e = .returned (.tuple #[.int .u8 0, .int .i64 0, .iface 34 (.pointer (some ⟨w.heap.size, 0, none⟩))]) ∧ Grown w w' := by
  unfold maxLen at hs
  go_enter Yba.func6, Yba.ntmps6
  go_wp2_with fail
  refine (digit_yes _ d1 e1 _).mono ?_; rintro e w' ⟨rfl, rfl⟩
  go_wp2_with fail
  refine (digit_yes _ d2 e2 _).mono ?_; rintro e w' ⟨rfl, rfl⟩
  go_wp2_with fail
  refine (digit_yes _ d3 e3 _).mono ?_; rintro e w' ⟨rfl, rfl⟩
  go_wp2
  go_quiet (fail)
  go_wp2
  go_ret3
  exact ⟨rfl, by repeat (first | exact Grown.refl _ | apply Grown.drew | apply Grown.alloc)⟩

set_option maxHeartbeats 400000 in
theorem unescE (s : ByteArray) (n : Nat) (w : World) (hs : s.size ≤ maxLen) (hn : (n : Int) ≤ 1099511627776) (h1 : n + 1 < s.size)
    (d1 : 48 ≤ (s[n + 1].toNat : Int)) (e1 : (s[n + 1].toNat : Int) ≤ 57) (h3 : n + 3 < s.size)
    (d2 : 48 ≤ (s[n + 2].toNat : Int)) (e2 : (s[n + 2].toNat : Int) ≤ 57) 
    (d3 : 48 ≤ (s[n + 3].toNat : Int)) (e3 : (s[n + 3].toNat : Int) ≤ 57) 
    (hv : ((s[n + 1].toNat : Int) - 48) * 100 + ((s[n + 2].toNat : Int) - 48) * 10 + ((s[n + 3].toNat : Int) - 48) ≤ 255):
    Calls Yba.prog 6 #[.string s, .int .i64 n] w fun e w' => e = .returned (.tuple #[.int .u8 (((s[n + 1].toNat : Int) - 48) * 100 + ((s[n + 2].toNat : Int) - 48) * 10 + ((s[n + 3].toNat : Int) - 48)), .int .i64 (n + 3), .nilIface]) ∧ Grown w w' := by
  unfold maxLen at hs
  go_enter Yba.func6, Yba.ntmps6
  go_wp2_with fail
  refine (digit_yes _ d1 e1 _).mono ?_; rintro e w' ⟨rfl, rfl⟩
  go_wp2_with fail
  refine (digit_yes _ d2 e2 _).mono ?_; rintro e w' ⟨rfl, rfl⟩
  go_wp2_with fail
  refine (digit_yes _ d3 e3 _).mono ?_; rintro e w' ⟨rfl, rfl⟩
  go_wp2
  go_quiet (fail)
  go_wp2
  go_ret3
  exact ⟨rfl, by repeat (first | exact Grown.refl _ | exact Grown.drewN _ _ | apply Grown.drew | apply Grown.alloc)⟩

set_option maxHeartbeats 400000 in
theorem modelA (s : ByteArray) (n : Nat) (w : World) (hs : s.size ≤ maxLen) (hn : (n : Int) ≤ 1099511627776) (h1 : s.size ≤ n + 1) :
    Calls Yba.prog 7 #[.string s, .int .i64 n] w fun e w' => e = .returned (.tuple #[.int .u8 0, .int .i64 0, .bool false]) ∧ w' = w := by
  unfold maxLen at hs
  go_enter Yba.func7, Yba.ntmps7
  go_wp2
  all_goals go_ret3
  all_goals exact ⟨rfl, rfl⟩

set_option maxHeartbeats 400000 in
theorem modelB (s : ByteArray) (n : Nat) (w : World) (hs : s.size ≤ maxLen) (hn : (n : Int) ≤ 1099511627776) (h1 : n + 1 < s.size) (d1 : (s[n + 1].toNat : Int) < 48 ∨ 57 < (s[n + 1].toNat : Int)) :
    Calls Yba.prog 7 #[.string s, .int .i64 n] w fun e w' => e = .returned (.tuple #[.int .u8 s[n + 1].toNat, .int .i64 (n + 1), .bool true]) ∧ w' = w := by
  unfold maxLen at hs
  go_enter Yba.func7, Yba.ntmps7
  go_wp2
  refine wp_loop_rounds 4 ?_
  rw [rounds_succ]
  go_wp2
  all_goals go_ret3
  all_goals exact ⟨rfl, rfl⟩

set_option maxHeartbeats 400000 in
theorem modelC0 (s : ByteArray) (n : Nat) (w : World) (hs : s.size ≤ maxLen) (hn : (n : Int) ≤ 1099511627776) (h1 : n + 1 < s.size) (d1 : 48 ≤ (s[n + 1].toNat : Int)) (e1 : (s[n + 1].toNat : Int) ≤ 57) (h2 : s.size ≤ n + 1 + 1) :
    Calls Yba.prog 7 #[.string s, .int .i64 n] w fun e w' => e = .returned (.tuple #[.int .u8 0, .int .i64 0, .bool false]) ∧ w' = w := by
  unfold maxLen at hs
  go_enter Yba.func7, Yba.ntmps7
  go_wp2
  refine wp_loop_rounds 4 ?_
  rw [rounds_succ]
  go_wp2
  rw [rounds_succ]
  go_wp2
  all_goals go_ret3
  all_goals exact ⟨rfl, rfl⟩

set_option maxHeartbeats 400000 in
theorem modelC1a (s : ByteArray) (n : Nat) (w : World) (hs : s.size ≤ maxLen) (hn : (n : Int) ≤ 1099511627776) (h1 : n + 1 < s.size) (d1 : 48 ≤ (s[n + 1].toNat : Int)) (e1 : (s[n + 1].toNat : Int) ≤ 57) (h2 : n + 1 + 1 < s.size) (d2 : (s[n + 1 + 1].toNat : Int) < 48 ∨ 57 < (s[n + 1 + 1].toNat : Int)) :
    Calls Yba.prog 7 #[.string s, .int .i64 n] w fun e w' => e = .returned (.tuple #[.int .u8 0, .int .i64 0, .bool false]) ∧ w' = w := by
  unfold maxLen at hs
  go_enter Yba.func7, Yba.ntmps7
  go_wp2
  refine wp_loop_rounds 4 ?_
  rw [rounds_succ]
  go_wp2
  rw [rounds_succ]
  go_wp2
  all_goals go_ret3
  all_goals exact ⟨rfl, rfl⟩

set_option maxHeartbeats 400000 in
theorem modelC1b (s : ByteArray) (n : Nat) (w : World) (hs : s.size ≤ maxLen) (hn : (n : Int) ≤ 1099511627776) (h1 : n + 1 < s.size) (d1 : 48 ≤ (s[n + 1].toNat : Int)) (e1 : (s[n + 1].toNat : Int) ≤ 57) (h2 : n + 1 + 1 < s.size) (d2 : 48 ≤ (s[n + 1 + 1].toNat : Int)) (e2 : (s[n + 1 + 1].toNat : Int) ≤ 57) (h3 : s.size ≤ n + 1 + 2) :
    Calls Yba.prog 7 #[.string s, .int .i64 n] w fun e w' => e = .returned (.tuple #[.int .u8 0, .int .i64 0, .bool false]) ∧ w' = w := by
  unfold maxLen at hs
  go_enter Yba.func7, Yba.ntmps7
  go_wp2
  refine wp_loop_rounds 4 ?_
  rw [rounds_succ]
  go_wp2
  rw [rounds_succ]
  go_wp2
  rw [rounds_succ]
  go_wp2
  all_goals go_ret3
  all_goals exact ⟨rfl, rfl⟩

set_option maxHeartbeats 400000 in
theorem modelC3 (s : ByteArray) (n : Nat) (w : World) (hs : s.size ≤ maxLen) (hn : (n : Int) ≤ 1099511627776) (h1 : n + 1 < s.size) (d1 : 48 ≤ (s[n + 1].toNat : Int)) (e1 : (s[n + 1].toNat : Int) ≤ 57) (h2 : n + 1 + 1 < s.size) (d2 : 48 ≤ (s[n + 1 + 1].toNat : Int)) (e2 : (s[n + 1 + 1].toNat : Int) ≤ 57) (h3 : n + 1 + 2 < s.size) (d3 : (s[n + 1 + 2].toNat : Int) < 48 ∨ 57 < (s[n + 1 + 2].toNat : Int)) :
    Calls Yba.prog 7 #[.string s, .int .i64 n] w fun e w' => e = .returned (.tuple #[.int .u8 0, .int .i64 0, .bool false]) ∧ w' = w := by
  unfold maxLen at hs
  go_enter Yba.func7, Yba.ntmps7
  go_wp2
  refine wp_loop_rounds 4 ?_
  rw [rounds_succ]
  go_wp2
  rw [rounds_succ]
  go_wp2
  rw [rounds_succ]
  go_wp2
  all_goals go_ret3
  all_goals exact ⟨rfl, rfl⟩

set_option maxHeartbeats 400000 in
theorem modelD (s : ByteArray) (n : Nat) (w : World) (hs : s.size ≤ maxLen) (hn : (n : Int) ≤ 1099511627776) (h1 : n + 1 < s.size) (d1 : 48 ≤ (s[n + 1].toNat : Int)) (e1 : (s[n + 1].toNat : Int) ≤ 57) (h2 : n + 1 + 1 < s.size) (d2 : 48 ≤ (s[n + 1 + 1].toNat : Int)) (e2 : (s[n + 1 + 1].toNat : Int) ≤ 57) (h3 : n + 1 + 2 < s.size) (d3 : 48 ≤ (s[n + 1 + 2].toNat : Int)) (e3 : (s[n + 1 + 2].toNat : Int) ≤ 57) (hv : 256 ≤ (((s[n + 1].toNat : Int) - 48) * 10 + ((s[n + 1 + 1].toNat : Int) - 48)) * 10 + ((s[n + 1 + 2].toNat : Int) - 48)) :
    Calls Yba.prog 7 #[.string s, .int .i64 n] w fun e w' => e = .returned (.tuple #[.int .u8 0, .int .i64 0, .bool false]) ∧ w' = w := by
  unfold maxLen at hs
  go_enter Yba.func7, Yba.ntmps7
  go_wp2
  refine wp_loop_rounds 4 ?_
  rw [rounds_succ]
  go_wp2
  rw [rounds_succ]
  go_wp2
  rw [rounds_succ]
  go_wp2
  rw [rounds_succ]
  go_wp2
  all_goals go_ret3
  all_goals exact ⟨rfl, rfl⟩

set_option maxHeartbeats 400000 in
theorem modelE (s : ByteArray) (n : Nat) (w : World) (hs : s.size ≤ maxLen) (hn : (n : Int) ≤ 1099511627776) (h1 : n + 1 < s.size) (d1 : 48 ≤ (s[n + 1].toNat : Int)) (e1 : (s[n + 1].toNat : Int) ≤ 57) (h2 : n + 1 + 1 < s.size) (d2 : 48 ≤ (s[n + 1 + 1].toNat : Int)) (e2 : (s[n + 1 + 1].toNat : Int) ≤ 57) (h3 : n + 1 + 2 < s.size) (d3 : 48 ≤ (s[n + 1 + 2].toNat : Int)) (e3 : (s[n + 1 + 2].toNat : Int) ≤ 57) (hv : (((s[n + 1].toNat : Int) - 48) * 10 + ((s[n + 1 + 1].toNat : Int) - 48)) * 10 + ((s[n + 1 + 2].toNat : Int) - 48) < 256) :
    Calls Yba.prog 7 #[.string s, .int .i64 n] w fun e w' => e = .returned (.tuple #[.int .u8 ((((s[n + 1].toNat : Int) - 48) * 10 + ((s[n + 1 + 1].toNat : Int) - 48)) * 10 + ((s[n + 1 + 2].toNat : Int) - 48)), .int .i64 (n + 3), .bool true]) ∧ w' = w := by
  unfold maxLen at hs
  go_enter Yba.func7, Yba.ntmps7
  go_wp2
  refine wp_loop_rounds 4 ?_
  rw [rounds_succ]
  go_wp2
  rw [rounds_succ]
  go_wp2
  rw [rounds_succ]
  go_wp2
  rw [rounds_succ]
  go_wp2
  all_goals go_ret3
  all_goals exact ⟨rfl, rfl⟩
end Go.Proofs.Ybulkdmak
