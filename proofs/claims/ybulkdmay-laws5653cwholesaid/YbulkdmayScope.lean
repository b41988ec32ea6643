/-
  Seat b5653a, project quillet: the walk of 'LawS5653CWhole', a theorem a way: the closure and '(*compiler).scope' are entered in place. My own text.
-/
import Derived.Test.YbulkdmayProg
import Derived.WalkKit
import Derived.ProofKit
import Derived.OpenShut
import Derived.KernelRfl
namespace Go.Proofs.Ybulkdmay
open Go.ChangeShapes Go.WideShapes Go.ChangeAt Go.RowKit
set_option linter.unusedVariables false

set_option maxHeartbeats 400000 in
set_option maxRecDepth 100000 in
theorem c_t_set (a1 : Int) (b1 : -9223372036854775808 ≤ a1 ∧ a1 ≤ 9223372036854775807) (w : World) :
    Calls Yba.prog 5 #[.bool true, .int .i64 a1, .bool true, .bool true] w fun e w' => e = .returned (.bool true) ∧ Grown w w' := by
  go_enter Yba.func5, Yba.ntmps5
  go_wp2
  go_end0
  go_wp2
  refine bodyPost_ret (v := .agg #[.int .i64 a1, .bool false, .pointer none]) (by simp [results, Yba.results8, go_sem]) rfl ?_
  go_wp2
  go_ret
  exact ⟨rfl, by repeat (first | exact Grown.refl _ | apply Grown.drew | apply Grown.alloc)⟩

set_option maxHeartbeats 400000 in
set_option maxRecDepth 100000 in
theorem c_t_unset_pos (a1 : Int) (b1 : -9223372036854775808 ≤ a1 ∧ a1 ≤ 9223372036854775807) (h : 0 < a1) (w : World) :
    Calls Yba.prog 5 #[.bool true, .int .i64 a1, .bool true, .bool false] w fun e w' => e = .returned (.bool true) ∧ Grown w w' := by
  go_enter Yba.func5, Yba.ntmps5
  go_wp2
  go_end0
  go_wp2
  refine bodyPost_ret (v := .agg #[.int .i64 a1, .bool true, .pointer none]) (by simp [results, Yba.results8, go_sem]) rfl ?_
  go_wp2
  go_ret
  exact ⟨rfl, by repeat (first | exact Grown.refl _ | apply Grown.drew | apply Grown.alloc)⟩

set_option maxHeartbeats 400000 in
set_option maxRecDepth 100000 in
theorem c_t_unset_neg (a1 : Int) (b1 : -9223372036854775808 ≤ a1 ∧ a1 ≤ 9223372036854775807) (h : a1 ≤ 0) (w : World) :
    Calls Yba.prog 5 #[.bool true, .int .i64 a1, .bool true, .bool false] w fun e w' => e = .returned (.bool true) ∧ Grown w w' := by
  go_enter Yba.func5, Yba.ntmps5
  go_wp2
  go_end0
  go_wp2
  refine bodyPost_ret (v := .agg #[.int .i64 a1, .bool false, .pointer none]) (by simp [results, Yba.results8, go_sem]; omega) rfl ?_
  go_wp2
  go_ret
  exact ⟨rfl, by repeat (first | exact Grown.refl _ | apply Grown.drew | apply Grown.alloc)⟩

set_option maxHeartbeats 400000 in
set_option maxRecDepth 100000 in
theorem c_t_still_pos (a1 : Int) (x : Bool) (b1 : -9223372036854775808 ≤ a1 ∧ a1 ≤ 9223372036854775807) (h : 0 < a1) (w : World) :
    Calls Yba.prog 5 #[.bool true, .int .i64 a1, .bool false, .bool x] w fun e w' => e = .returned (.bool true) ∧ Grown w w' := by
  go_enter Yba.func5, Yba.ntmps5
  go_wp2
  go_end0
  go_wp2
  refine bodyPost_ret (v := .agg #[.int .i64 a1, .bool true, .pointer none]) (by simp [results, Yba.results8, go_sem]) rfl ?_
  go_wp2
  go_ret
  exact ⟨rfl, by repeat (first | exact Grown.refl _ | apply Grown.drew | apply Grown.alloc)⟩

set_option maxHeartbeats 400000 in
set_option maxRecDepth 100000 in
theorem c_t_still_neg (a1 : Int) (x : Bool) (b1 : -9223372036854775808 ≤ a1 ∧ a1 ≤ 9223372036854775807) (h : a1 ≤ 0) (w : World) :
    Calls Yba.prog 5 #[.bool true, .int .i64 a1, .bool false, .bool x] w fun e w' => e = .returned (.bool true) ∧ Grown w w' := by
  go_enter Yba.func5, Yba.ntmps5
  go_wp2
  go_end0
  go_wp2
  refine bodyPost_ret (v := .agg #[.int .i64 a1, .bool false, .pointer none]) (by simp [results, Yba.results8, go_sem]; omega) rfl ?_
  go_wp2
  go_ret
  exact ⟨rfl, by repeat (first | exact Grown.refl _ | apply Grown.drew | apply Grown.alloc)⟩

set_option maxHeartbeats 400000 in
set_option maxRecDepth 100000 in
theorem c_f_set (a1 : Int) (b1 : -9223372036854775808 ≤ a1 ∧ a1 ≤ 9223372036854775807) (w : World) :
    Calls Yba.prog 5 #[.bool false, .int .i64 a1, .bool true, .bool true] w fun e w' => e = .returned (.bool true) ∧ Grown w w' := by
  go_enter Yba.func5, Yba.ntmps5
  go_wp2
  go_end0
  go_wp2
  refine bodyPost_ret (v := .agg #[.int .i64 a1, .bool false, .pointer none]) (by simp [results, Yba.results8, go_sem]) rfl ?_
  go_wp2
  go_ret
  exact ⟨rfl, by repeat (first | exact Grown.refl _ | apply Grown.drew | apply Grown.alloc)⟩

set_option maxHeartbeats 400000 in
set_option maxRecDepth 100000 in
theorem c_f_unset_pos (a1 : Int) (b1 : -9223372036854775808 ≤ a1 ∧ a1 ≤ 9223372036854775807) (h : 0 < a1) (w : World) :
    Calls Yba.prog 5 #[.bool false, .int .i64 a1, .bool true, .bool false] w fun e w' => e = .returned (.bool true) ∧ Grown w w' := by
  go_enter Yba.func5, Yba.ntmps5
  go_wp2
  go_end0
  go_wp2
  refine bodyPost_ret (v := .agg #[.int .i64 a1, .bool true, .pointer none]) (by simp [results, Yba.results8, go_sem]) rfl ?_
  go_wp2
  go_ret
  exact ⟨rfl, by repeat (first | exact Grown.refl _ | apply Grown.drew | apply Grown.alloc)⟩

set_option maxHeartbeats 400000 in
set_option maxRecDepth 100000 in
theorem c_f_unset_neg (a1 : Int) (b1 : -9223372036854775808 ≤ a1 ∧ a1 ≤ 9223372036854775807) (h : a1 ≤ 0) (w : World) :
    Calls Yba.prog 5 #[.bool false, .int .i64 a1, .bool true, .bool false] w fun e w' => e = .returned (.bool true) ∧ Grown w w' := by
  go_enter Yba.func5, Yba.ntmps5
  go_wp2
  go_end0
  go_wp2
  refine bodyPost_ret (v := .agg #[.int .i64 a1, .bool false, .pointer none]) (by simp [results, Yba.results8, go_sem]; omega) rfl ?_
  go_wp2
  go_ret
  exact ⟨rfl, by repeat (first | exact Grown.refl _ | apply Grown.drew | apply Grown.alloc)⟩

set_option maxHeartbeats 400000 in
set_option maxRecDepth 100000 in
theorem c_f_still_pos (a1 : Int) (x : Bool) (b1 : -9223372036854775808 ≤ a1 ∧ a1 ≤ 9223372036854775807) (h : 0 < a1) (w : World) :
    Calls Yba.prog 5 #[.bool false, .int .i64 a1, .bool false, .bool x] w fun e w' => e = .returned (.bool true) ∧ Grown w w' := by
  go_enter Yba.func5, Yba.ntmps5
  go_wp2
  go_end0
  go_wp2
  refine bodyPost_ret (v := .agg #[.int .i64 a1, .bool true, .pointer none]) (by simp [results, Yba.results8, go_sem]) rfl ?_
  go_wp2
  go_ret
  exact ⟨rfl, by repeat (first | exact Grown.refl _ | apply Grown.drew | apply Grown.alloc)⟩

set_option maxHeartbeats 400000 in
set_option maxRecDepth 100000 in
theorem c_f_still_neg (a1 : Int) (x : Bool) (b1 : -9223372036854775808 ≤ a1 ∧ a1 ≤ 9223372036854775807) (h : a1 ≤ 0) (w : World) :
    Calls Yba.prog 5 #[.bool false, .int .i64 a1, .bool false, .bool x] w fun e w' => e = .returned (.bool true) ∧ Grown w w' := by
  go_enter Yba.func5, Yba.ntmps5
  go_wp2
  go_end0
  go_wp2
  refine bodyPost_ret (v := .agg #[.int .i64 a1, .bool false, .pointer none]) (by simp [results, Yba.results8, go_sem]; omega) rfl ?_
  go_wp2
  go_ret
  exact ⟨rfl, by repeat (first | exact Grown.refl _ | apply Grown.drew | apply Grown.alloc)⟩

theorem cwhole_walk (a0 : Bool) (a1 : Int) (a2 a3 : Bool) (w1 : (Lit.int .i64 a1).wf = true) (w : World) :
    Calls Yba.prog 5 #[.bool a0, .int .i64 a1, .bool a2, .bool a3] w fun e w' => e = .returned (.bool true) ∧ Grown w w' := by
  have b1 := bounds_i64 w1
  by_cases h : 0 < a1
  · cases a0 <;> cases a2 <;> cases a3
    · exact c_f_still_pos a1 false b1 h w
    · exact c_f_still_pos a1 true b1 h w
    · exact c_f_unset_pos a1 b1 h w
    · exact c_f_set a1 b1 w
    · exact c_t_still_pos a1 false b1 h w
    · exact c_t_still_pos a1 true b1 h w
    · exact c_t_unset_pos a1 b1 h w
    · exact c_t_set a1 b1 w
  · have h' : a1 ≤ 0 := by omega
    cases a0 <;> cases a2 <;> cases a3
    · exact c_f_still_neg a1 false b1 h' w
    · exact c_f_still_neg a1 true b1 h' w
    · exact c_f_unset_neg a1 b1 h' w
    · exact c_f_set a1 b1 w
    · exact c_t_still_neg a1 false b1 h' w
    · exact c_t_still_neg a1 true b1 h' w
    · exact c_t_unset_neg a1 b1 h' w
    · exact c_t_set a1 b1 w
end Go.Proofs.Ybulkdmay
