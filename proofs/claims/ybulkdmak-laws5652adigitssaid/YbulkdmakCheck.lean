/-
  Seat b5652a, project sealpost: 'zzs5652acheck' answers true at every string and every index from 0 to 2^40. My own text.
-/
import Derived.Test.YbulkdmakParts
namespace Go.Proofs.Ybulkdmak
open Go.ChangeShapes Go.WideShapes Go.ChangeAt Go.RowKit
set_option linter.unusedVariables false

set_option maxHeartbeats 400000 in
/-- Both answer 'no': the same triple of noughts. -/
theorem check_no (s : ByteArray) (n : Nat) (w : World)
    (u : ∀ w, Calls Yba.prog 6 #[.string s, .int .i64 n] w fun e w' => e = .returned (.tuple #[.int .u8 0, .int .i64 0, .iface 34 (.pointer (some ⟨w.heap.size, 0, none⟩))]) ∧ Grown w w')
    (m : ∀ w, Calls Yba.prog 7 #[.string s, .int .i64 n] w fun e w' => e = .returned (.tuple #[.int .u8 0, .int .i64 0, .bool false]) ∧ w' = w) :
    Calls Yba.prog 5 #[.string s, .int .i64 n] w fun e w' => e = .returned (.bool true) ∧ Grown w w' := by
  have U : Hid _ := u
  have M : Hid _ := m
  clear u m
  go_enter Yba.func5, Yba.ntmps5
  go_wp2_with fail
  refine (U.out _).mono ?_
  rintro e w1 ⟨rfl, hg⟩
  go_wp2_with fail
  refine (M.out _).mono ?_
  rintro e w2 ⟨rfl, rfl⟩
  go_wp2
  go_ret
  exact ⟨rfl, hg⟩

set_option maxHeartbeats 400000 in
/-- Both answer 'yes': the same octet at the same place. -/
theorem check_yes (s : ByteArray) (n : Nat) (w : World) (x y i j : Int) (hx : (x == y) = true) (hi : (i == j) = true)
    (u : ∀ w, Calls Yba.prog 6 #[.string s, .int .i64 n] w fun e w' => e = .returned (.tuple #[.int .u8 x, .int .i64 i, .nilIface]) ∧ Grown w w')
    (m : ∀ w, Calls Yba.prog 7 #[.string s, .int .i64 n] w fun e w' => e = .returned (.tuple #[.int .u8 y, .int .i64 j, .bool true]) ∧ w' = w) :
    Calls Yba.prog 5 #[.string s, .int .i64 n] w fun e w' => e = .returned (.bool true) ∧ Grown w w' := by
  have U : Hid _ := u
  have M : Hid _ := m
  clear u m
  go_enter Yba.func5, Yba.ntmps5
  go_wp2_with fail
  refine (U.out _).mono ?_
  rintro e w1 ⟨rfl, hg⟩
  go_wp2_with fail
  refine (M.out _).mono ?_
  rintro e w2 ⟨rfl, rfl⟩
  go_wp2
  go_ret
  exact ⟨rfl, hg⟩

theorem check_true (s : ByteArray) (n : Nat) (w : World) (hs : s.size ≤ maxLen) (hn : (n : Int) ≤ 1099511627776) :
    Calls Yba.prog 5 #[.string s, .int .i64 n] w fun e w' => e = .returned (.bool true) ∧ Grown w w' := by
  by_cases h1 : n + 1 < s.size
  · by_cases d1 : 48 ≤ (s[n + 1].toNat : Int) ∧ (s[n + 1].toNat : Int) ≤ 57
    · obtain ⟨d1, e1⟩ := d1
      by_cases h3 : n + 3 < s.size
      · by_cases d2 : 48 ≤ (s[n + 2].toNat : Int) ∧ (s[n + 2].toNat : Int) ≤ 57
        · obtain ⟨d2, e2⟩ := d2
          by_cases d3 : 48 ≤ (s[n + 3].toNat : Int) ∧ (s[n + 3].toNat : Int) ≤ 57
          · obtain ⟨d3, e3⟩ := d3
            by_cases hv : ((s[n + 1].toNat : Int) - 48) * 100 + ((s[n + 2].toNat : Int) - 48) * 10 + ((s[n + 3].toNat : Int) - 48) ≤ 255
            · have hv' : (((s[n + 1].toNat : Int) - 48) * 10 + ((s[n + 2].toNat : Int) - 48)) * 10 + ((s[n + 3].toNat : Int) - 48) < 256 := by omega
              have hxy : ((((s[n + 1].toNat : Int) - 48) * 100 + ((s[n + 2].toNat : Int) - 48) * 10 + ((s[n + 3].toNat : Int) - 48)) == ((((s[n + 1].toNat : Int) - 48) * 10 + ((s[n + 2].toNat : Int) - 48)) * 10 + ((s[n + 3].toNat : Int) - 48))) = true := beq_iff_eq.2 (by omega)
              exact check_yes s n w _ _ _ _ hxy (beq_iff_eq.2 rfl) (fun w => unescE s n w hs hn h1 d1 e1 h3 d2 e2 d3 e3 hv) (fun w => modelE s n w hs hn h1 d1 e1 (by omega) d2 e2 h3 d3 e3 hv')
            · have hv1 : 255 < ((s[n + 1].toNat : Int) - 48) * 100 + ((s[n + 2].toNat : Int) - 48) * 10 + ((s[n + 3].toNat : Int) - 48) := by omega
              have hv' : 256 ≤ (((s[n + 1].toNat : Int) - 48) * 10 + ((s[n + 2].toNat : Int) - 48)) * 10 + ((s[n + 3].toNat : Int) - 48) := by omega
              exact check_no s n w (fun w => unescD s n w hs hn h1 d1 e1 h3 d2 e2 d3 e3 hv1) (fun w => modelD s n w hs hn h1 d1 e1 (by omega) d2 e2 h3 d3 e3 hv')
          · have d3' : (s[n + 3].toNat : Int) < 48 ∨ 57 < (s[n + 3].toNat : Int) := by omega
            exact check_no s n w (fun w => unescC3 s n w hs hn h1 d1 e1 h3 d2 e2 d3') (fun w => modelC3 s n w hs hn h1 d1 e1 (by omega) d2 e2 h3 d3')
        · have d2' : (s[n + 2].toNat : Int) < 48 ∨ 57 < (s[n + 2].toNat : Int) := by omega
          exact check_no s n w (fun w => unescC2 s n w hs hn h1 d1 e1 h3 d2') (fun w => modelC1a s n w hs hn h1 d1 e1 (by omega) d2')
      · by_cases h2 : n + 2 < s.size
        · by_cases d2 : 48 ≤ (s[n + 2].toNat : Int) ∧ (s[n + 2].toNat : Int) ≤ 57
          · obtain ⟨d2, e2⟩ := d2
            exact check_no s n w (fun w => unescC1 s n w hs hn h1 d1 e1 (by omega)) (fun w => modelC1b s n w hs hn h1 d1 e1 h2 d2 e2 (by omega))
          · have d2' : (s[n + 2].toNat : Int) < 48 ∨ 57 < (s[n + 2].toNat : Int) := by omega
            exact check_no s n w (fun w => unescC1 s n w hs hn h1 d1 e1 (by omega)) (fun w => modelC1a s n w hs hn h1 d1 e1 h2 d2')
        · exact check_no s n w (fun w => unescC1 s n w hs hn h1 d1 e1 (by omega)) (fun w => modelC0 s n w hs hn h1 d1 e1 (by omega))
    · have d1' : (s[n + 1].toNat : Int) < 48 ∨ 57 < (s[n + 1].toNat : Int) := by omega
      exact check_yes s n w _ _ _ _ (beq_iff_eq.2 rfl) (beq_iff_eq.2 rfl) (fun w => unescB s n w hs hn h1 d1') (fun w => modelB s n w hs hn h1 d1')
  · exact check_no s n w (fun w => unescA s n w hs hn (by omega)) (fun w => modelA s n w hs hn (by omega))
end Go.Proofs.Ybulkdmak
