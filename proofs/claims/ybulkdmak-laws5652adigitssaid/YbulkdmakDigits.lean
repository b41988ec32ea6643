/-
  Seat b5652a, project sealpost: the walk of 'LawS5652ADigits': whatever string the buffer becomes, the check of it answers true. My own text.
-/
import Derived.Test.YbulkdmakCheck
import Derived.Lib.AppendStr
import Derived.Laws.BytesArg
import Derived.WalkSpells
namespace Go.Proofs.Ybulkdmak
open Go.ChangeShapes Go.WideShapes Go.ChangeAt Go.RowKit
set_option linter.unusedVariables false

theorem Yba.info5 : (Yba.prog.info? 5).map (fun i => (i.zero, i.size, i.bytes)) = some (some (.int .u8 0), 1, 1) := by kernel_rfl

/-- Every cell is a byte. -/
def Octets (xs : List Value) : Prop := ∀ u ∈ xs, ∃ z : Int, u = .int .u8 z
theorem octets_str (s : ByteArray) : Octets ([] ++ Lib.strCells s) := by
  intro u hu
  simp only [List.nil_append, Lib.strCells, List.mem_map] at hu
  obtain ⟨b, _, rfl⟩ := hu
  exact ⟨_, rfl⟩
theorem octets_one {xs : List Value} (h : Octets xs) (z : Int) : Octets (xs ++ [.int .u8 z]) := by
  intro u hu
  rcases List.mem_append.1 hu with hu | hu
  · exact h u hu
  · simp at hu; exact ⟨z, hu⟩
theorem octets_tail {xs : List Value} (h : Octets xs) (s : ByteArray) : Octets (xs ++ Lib.strCells s) := by
  intro u hu
  rcases List.mem_append.1 hu with hu | hu
  · exact h u hu
  · exact octets_str s u (by simpa using hu)
theorem octets_nums : ∀ (xs : List Value), Octets xs → ∃ zs : List Int, xs = zs.map (Value.int .u8)
  | [], _ => ⟨[], rfl⟩
  | u :: us, h => by
    obtain ⟨z, rfl⟩ := h u (by simp)
    obtain ⟨zs, rfl⟩ := octets_nums us (fun v hv => h v (by simp [hv]))
    exact ⟨z :: zs, rfl⟩
/-- What an append leaves of the old memory. -/
theorem below_app {B n : Nat} {w w1 w2 : World} {v : Value} {xs : List Value} (hb : Below B w w1) (hs : B + 1 ≤ w1.heap.size) (hown : w1.ownsRow (B + 1) 5 1 v n xs) (hg : w1.grownBy w2 v.ownBlock) : Below B w w2 :=
  hb.grown hg (by omega) (fun k hk => by have := (hown.lt k hk).1; omega)
theorem cells_app {B n : Nat} {w1 w2 : World} {v : Value} {xs : List Value} (hs : B + 1 ≤ w1.heap.size) (hown : w1.ownsRow (B + 1) 5 1 v n xs) (hg : w1.grownBy w2 v.ownBlock) (j : Nat) : w2.cell? ⟨B, j, none⟩ = w1.cell? ⟨B, j, none⟩ :=
  World.cell?_of_block (hg.block B (by omega) (fun h => by have := (hown.lt B h.symm).1; omega))

/-- 'string(buf)', buf a row of bytes of the call's own: some string of that length. -/
theorem conv_own {B n : Nat} {W : World} {v : Value} {xs : List Value} (h : W.ownsRow B 5 1 v n xs) (ho : Octets xs) : ∃ s : ByteArray, s.size = n ∧ (convert 24 9 v).run Yba.prog W = .ok (.string s) W := by
  obtain ⟨zs, rfl⟩ := octets_nums xs ho
  have hl : zs.length = n := by simpa using h.1
  rcases h.2 with ⟨rfl, rfl⟩ | ⟨g, cap, cur, rfl, _, _, _, _, _, _⟩
  · exact ⟨ByteArray.empty, rfl, run_convert_bytes_nil W 24 5 Yba.underlying24 Yba.underlying5 0 0 9 Yba.underlying9⟩
  · refine ⟨strOfNums zs, by rw [strOfNums_size, hl], run_convert_bytes_arg W 24 5 Yba.underlying24 Yba.underlying5 g 0 n cap zs hl (fun i hi => ?_) 9 Yba.underlying9⟩
    have := h.cells (g := g) rfl i (.int .u8 (zs.getD i 0)) (by simp [List.getD, List.getElem?_eq_getElem (show i < zs.length by omega)])
    have hadd : (⟨g, 0, none⟩ : Addr).add i = ⟨g, 0 + i, none⟩ := by unfold Addr.add; split <;> simp_all
    rwa [hadd] at this

set_option maxHeartbeats 400000 in
set_option maxRecDepth 100000 in
theorem digits_walk (pre tail : ByteArray) (x0 x1 x2 kk : Int) (w : World) (hp : pre.size ≤ 1048576) (ht : tail.size ≤ 1048576) (hk0 : 0 ≤ kk) (hk1 : kk ≤ 255) (b0 : 0 ≤ x0 ∧ x0 ≤ 255) (b1 : 0 ≤ x1 ∧ x1 ≤ 255) (b2 : 0 ≤ x2 ∧ x2 ≤ 255) :
    Calls Yba.prog 4 #[.string pre, .agg #[.int .u8 x0, .int .u8 x1, .int .u8 x2], .int .u8 kk, .string tail] w fun e w' => e = .returned (.bool true) ∧ w.keptBut w' (fun _ => False) := by
  obtain ⟨i0, hi, hz0, hz1, hz2⟩ := info_parts Yba.info5
  go_enter Yba.func4, Yba.ntmps4
  go_wp2_with (first
    | (at_make; refine wpList_make_own _ rfl _ _ 24 rfl (w.heap.size + 1) 5 i0 (.int .u8 0) 1 Yba.underlying24 hi hz0 hz1 .i64 .i64 _ (pre.size + tail.size + 4) rfl rfl (by omega) (by rw [hz2]; omega) (by unfold maxLen; omega) (by simp) ?_; intro w1 hown1 hgrow1; have hs1 : w.heap.size + 1 ≤ w1.heap.size := (by simpa using hgrow1.size); simp only [World.size_alloc] at hown1)
    | (at_builtin; (refine Lib.wpList_append_own_string _ rfl (.tmp 30) (.tmp 31) 24 9 rfl (w.heap.size + 1) 5 i0 Yba.underlying24 Yba.underlying9 hi hz0 hz1 hz2 (.slice (some ⟨w.heap.size + 1, 0, none⟩) 0 (pre.size + tail.size + 4)) 0 [] rfl hown1 pre rfl (by unfold maxLen; omega) (by omega) hs1 ?_); intro v2 w2 hown2 hgrow2 hn2; clear hn2)
    | (at_builtin; (refine wpList_append_own _ rfl (.tmp 33) (.tmp 34) 24 rfl (w.heap.size + 1) 5 i0 (.int .u8 0) 1 1 Yba.underlying24 hi hz0 hz1 hz2 rfl (by decide) v2 (0 + pre.size) ([] ++ Lib.strCells pre) rfl (hown2.alloc _) ⟨w2.heap.size, 0, none⟩ 1 1 [.int .u8 92] rfl rfl (cell_one_new _ _ _) (ints_oneCell .u8 [92]) (by unfold maxLen; omega) (by omega) (by have := hgrow2.size; simp; omega) ?_); intro v3 w3 hown3 hgrow3 hn3; clear hn3)
    | fail)
  have hs2 : w.heap.size + 1 ≤ w2.heap.size := Nat.le_trans hs1 hgrow2.size
  have hs3 : w.heap.size + 1 ≤ w3.heap.size := by have := hgrow3.size; simp at this; omega
  have hbel3 : Below w.heap.size w w3 := by
    have e1 : Below w.heap.size w w1 := ((Below.refl w.heap.size w).alloc (Nat.le_refl _) (.cells #[.int .u8 x0, .int .u8 x1, .int .u8 x2] 23)).grown hgrow1 (by simp) (fun k hk => by cases hk)
    have e2 : Below w.heap.size w w2 := below_app e1 hs1 hown1 hgrow2
    exact below_app (e2.alloc (by omega) _) (by simp; omega) (hown2.alloc _) hgrow3
  have hc1 : ∀ j, w1.cell? ⟨w.heap.size, j, none⟩ = (w.alloc (.cells #[.int .u8 x0, .int .u8 x1, .int .u8 x2] 23)).cell? ⟨w.heap.size, j, none⟩ := fun j => World.cell?_of_block (hgrow1.block w.heap.size (by simp) (fun h => by cases h))
  have hc2 : ∀ j, w2.cell? ⟨w.heap.size, j, none⟩ = w1.cell? ⟨w.heap.size, j, none⟩ := fun j => cells_app hs1 hown1 hgrow2 j
  have hc3 : ∀ j, w3.cell? ⟨w.heap.size, j, none⟩ = w2.cell? ⟨w.heap.size, j, none⟩ := fun j => (cells_app (by simp; omega) (hown2.alloc _) hgrow3 j).trans (World.cell?_alloc_past _ _ _ (by omega))
  have hcells3 : (∃ y : Int, 0 ≤ y ∧ y ≤ 255 ∧ w3.cell? ⟨w.heap.size, 0, none⟩ = some (.int .u8 y)) ∧ (∃ y : Int, 0 ≤ y ∧ y ≤ 255 ∧ w3.cell? ⟨w.heap.size, 1, none⟩ = some (.int .u8 y)) ∧ (∃ y : Int, 0 ≤ y ∧ y ≤ 255 ∧ w3.cell? ⟨w.heap.size, 2, none⟩ = some (.int .u8 y)) := by
    refine ⟨⟨x0, b0.1, b0.2, ?_⟩, ⟨x1, b1.1, b1.2, ?_⟩, ⟨x2, b2.1, b2.2, ?_⟩⟩ <;> (rw [hc3, hc2, hc1]; simp)
  clear hc1 hc2 hc3
  have hoct3 := octets_one (octets_str pre) 92
  have hown3' : w3.ownsRow (w.heap.size + 1) 5 1 v3 (pre.size + 1 + 0) ([] ++ Lib.strCells pre ++ [.int .u8 92]) := by simpa using hown3
  generalize ([] ++ Lib.strCells pre ++ [Value.int .u8 92]) = xs3 at hoct3 hown3'
  clear hgrow1 hgrow2 hgrow3 hown1 hown2 hown3
  go_loopw [10, 11] (fun v i wr => ∃ (k : Nat) (xs : List Value), (k : Int) ≤ kk % 4 ∧ i = .int .i64 k ∧ wr.ownsRow (w.heap.size + 1) 5 1 v (pre.size + 1 + k) xs ∧ Octets xs ∧ Below w.heap.size w wr ∧ w.heap.size + 1 ≤ wr.heap.size ∧
      ((∃ y : Int, 0 ≤ y ∧ y ≤ 255 ∧ wr.cell? ⟨w.heap.size, 0, none⟩ = some (.int .u8 y)) ∧ (∃ y : Int, 0 ≤ y ∧ y ≤ 255 ∧ wr.cell? ⟨w.heap.size, 1, none⟩ = some (.int .u8 y)) ∧ (∃ y : Int, 0 ≤ y ∧ y ≤ 255 ∧ wr.cell? ⟨w.heap.size, 2, none⟩ = some (.int .u8 y))))
    (fun _ i _ => 4 - (intOf i).toNat)
  case atStart =>
    exact ⟨0, xs3, by omega, rfl, hown3', hoct3, hbel3, hs3, hcells3⟩
  case round =>
    clear hown3' hoct3 hbel3 hs3 hcells3 hs2 hs1
    obtain ⟨k, xs, hk, rfl, hown, hoct, hbel, hsz, hcells⟩ := hrel
    by_cases hlt : (k : Int) < kk % 4
    · obtain ⟨y, y0, y1, hy⟩ : ∃ y : Int, 0 ≤ y ∧ y ≤ 255 ∧ wr.cell? ⟨w.heap.size, k, none⟩ = some (.int .u8 y) := by
        obtain rfl | rfl | rfl : k = 0 ∨ k = 1 ∨ k = 2 := by omega
        · exact hcells.1
        · exact hcells.2.1
        · exact hcells.2.2
      have HC : Hid _ := hcells
      clear hcells
      go_wp2_with (first
        | (at_builtin; (refine wpList_append_own _ rfl (.tmp 41) (.tmp 47) 24 rfl (w.heap.size + 1) 5 i0 (.int .u8 0) 1 1 Yba.underlying24 hi hz0 hz1 hz2 rfl (by decide) u10 (pre.size + 1 + k) xs rfl (hown.alloc _) ⟨wr.heap.size, 0, none⟩ 1 1 [.int .u8 (48 + y % 10)] rfl rfl (cell_one_new _ _ _) (ints_oneCell .u8 [_]) (by unfold maxLen; omega) (by omega) (by simp; omega) ?_); intro v4 w4 hown4 hgrow4 hn4; clear hn4)
        | fail)
      have hb4 := below_app (hbel.alloc (by omega) _) (by simp; omega) (hown.alloc _) hgrow4
      have hc4 : ∀ j, w4.cell? ⟨w.heap.size, j, none⟩ = wr.cell? ⟨w.heap.size, j, none⟩ := fun j => (cells_app (by simp; omega) (hown.alloc _) hgrow4 j).trans (World.cell?_alloc_past _ _ _ (by omega))
      have hs4 : w.heap.size + 1 ≤ w4.heap.size := by have := hgrow4.size; simp at this; omega
      have hcells := HC.out
      rw [← hc4, ← hc4, ← hc4] at hcells
      go_roundw
      case rel => exact ⟨k + 1, _, by omega, by go_num, hown4, octets_one hoct _, hb4, hs4, hcells⟩
      case measure => simp [intOf]; omega
    · go_wp2_with (first
        | (at_builtin; (refine Lib.wpList_append_own_string _ rfl (.tmp 49) (.tmp 50) 24 9 rfl (w.heap.size + 1) 5 i0 Yba.underlying24 Yba.underlying9 hi hz0 hz1 hz2 u10 (pre.size + 1 + k) xs rfl hown tail rfl (by unfold maxLen; omega) (by omega) hsz ?_); intro v5 w5 hown5 hgrow5 hn5; clear hn5; obtain ⟨st, hst, hconv⟩ := conv_own hown5 (octets_tail hoct tail); have hsl : st.size ≤ maxLen := (by unfold maxLen; omega))
        | (go_at_call 5; refine (check_true st pre.size _ hsl (by omega)).mono ?_; rintro e w6 ⟨rfl, hg6⟩)
        | fail)
      go_ret
      have hb5 := below_app hbel hsz hown hgrow5
      exact ⟨rfl, World.keptBut_trans (hb5.frame _) (hg6.frame _)⟩

theorem digits_long (pre tail : ByteArray) (x0 x1 x2 kk : Int) (w : World) (hp : pre.size ≤ maxLen) (ht : tail.size ≤ maxLen) (h : 1048576 < pre.size ∨ 1048576 < tail.size) :
    Calls Yba.prog 4 #[.string pre, .agg #[.int .u8 x0, .int .u8 x1, .int .u8 x2], .int .u8 kk, .string tail] w fun e w' => e = .returned (.bool true) ∧ w.keptBut w' (fun _ => False) := by
  unfold maxLen at hp ht
  by_cases h1 : (1048576 : Int) < pre.size
  · go_enter Yba.func4, Yba.ntmps4
    go_wp2
    go_ret
    exact ⟨rfl, World.keptBut_alloc _ _ _⟩
  · have h2 : (1048576 : Int) < tail.size := by omega
    go_enter Yba.func4, Yba.ntmps4
    go_wp2
    go_ret
    exact ⟨rfl, World.keptBut_alloc _ _ _⟩
end Go.Proofs.Ybulkdmak
