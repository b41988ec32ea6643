/-
  Seat b5653a, project quillet: the walk of 'LawS5653BWhole': six loops (two inside another), a map and a parser of the call's own. My own text.
-/
import Derived.Test.YbulkdmayWholeParts
namespace Go.Proofs.Ybulkdmay
open Go.ChangeShapes Go.WideShapes Go.ChangeAt Go.RowKit Go.Maps Go.WideMaps
set_option linter.unusedVariables false

set_option maxHeartbeats 1000000 in
set_option maxRecDepth 100000 in
theorem whole_walk (b off len cap : Nat) (σ : Nat → ByteArray) (a1 : Option Addr) (len1 cap1 : Nat) (ν : Nat → Int) (nm : ByteArray) (w : World) (hl0 : 0 < len) (hlen : len ≤ 4096) (hb : b < w.heap.size) (hc : ∀ j, j < len → w.cell? ⟨b, off + j, none⟩ = some (.string (σ j))) (hσ : ∀ j, (σ j).size ≤ maxLen) (hv : Vals w w.heap.size a1 len1 ν) (hnm : nm.size ≤ maxLen) :
    Calls Yba.prog 3 #[.slice (some ⟨b, off, none⟩) len cap, .slice a1 len1 cap1, .string nm] w fun e w' => e = .returned (.bool true) ∧ Below w.heap.size w w' := by
  have hmm := @run_makeMap Yba.prog
  obtain ⟨κ, hκ⟩ : ∃ κ : Nat → List UInt8, κ = fun j => (σ j).data.toList := ⟨_, rfl⟩
  have HK : Hid (∀ j, κ j = (σ j).data.toList) := fun j => by rw [hκ]
  have HC : Hid _ := hc
  have HV : Hid (Vals w w.heap.size a1 len1 ν) := hv
  clear hκ hc hv
  go_enter Yba.func3, Yba.ntmps3
  go_wp2
  go_loopw [8] (fun i wr => ∃ (k : Nat) (D : DataW Unit), k ≤ len ∧ i = .int .i64 k ∧ wr.ownsMap Yba.prog 9 (plainElem Yba.prog 3) w.heap.size k D ∧ Hid (Pl.Filled D κ ν k) ∧ Below w.heap.size w wr)
    (fun i _ => len - (intOf i).toNat)
  case atStart => exact ⟨0, _, Nat.zero_le _, rfl, World.ownsMap_made _ _ _ _, Pl.filled_start κ ν, (Below.refl _ _).alloc (Nat.le_refl _) _⟩
  case round =>
    revert wr
    intro w4 hrel
    obtain ⟨k, D, hk, rfl, hown, hfil, hbel⟩ := hrel
    by_cases hlt : k < len
    · have c1 : w4.cell? ⟨b, off + k, none⟩ = some (.string (σ k)) := (hbel.cell (by exact hb)).trans (HC.out k hlt)
      have i1 : (k : Int) < (len : Int) := by omega
      obtain ⟨w5, hrun, hown5, hturn5⟩ := World.ownsMap.store (w := w4.drew) hown law9 Yba.underlying24 (by unfold maxLen; omega) (keyOf_string_mk Yba.underlying9 (hσ k)) (plainElem_int Yba.underlying3 (HV.out.2.2.1 k (by omega)))
      have c5 : w5.cell? ⟨b, off + k, none⟩ = some (.string (σ k)) := (World.cell?_of_block (a := ⟨b, off + k, none⟩) (hturn5.grown.block b (Nat.lt_of_lt_of_le hb hbel.size) (by simp; omega))).trans c1
      go_wp2
      go_region_held3 (fun w' => w'.cell? ⟨b, off + k, none⟩ = some (.string (σ k))) (go_keep)
        (first | (go_at_call 6; refine (val_any a1 len1 cap1 w.heap.size k ν _ (by exact Vals.drew (Vals.below HV.out hbel))).mono ?_; rintro e w' ⟨rfl, rfl⟩))
      have hb5 : Below w.heap.size w w5 := (Below.drew hbel).grown hturn5.grown hbel.size (fun j hj => by cases hj; exact Nat.le_refl _)
      have hf5 := hfil.out.step
      rw [← HK.out] at hown5
      clear c1 c5 hrun hturn5 hbel
      go_wp2
      go_roundw
      case rel => exact ⟨k + 1, _, by omega, by go_num, hown5, hf5, hb5⟩
      case measure => simp [intOf]; omega
    · have hkl : k = len := by omega
      subst hkl
      go_wp2_with fail
      refine (slot_gen w4.heap.size w.heap.size k D κ ν nm _ hnm (by rw [World.cell?_alloc_at _ _ _ _ rfl]; rfl) (hown.alloc _) (by omega) hfil.out).mono ?_
      rintro e w6 ⟨got, fnd, D', rfl, haf, hown6, hturn6⟩
      have hst := stand_of hbel hown (by rfl) (by rfl) (by rfl) (by rfl) (by rfl) (by rfl) hown6 hturn6
      have HA : Hid (After κ ν k nm.data.toList fnd got D') := haf
      have HS : Hid (Stand w w4.heap.size (k + 1) D' w6) := hst
      have HC6 : Hid (∀ j, j < k → w6.cell? ⟨b, off + j, none⟩ = some (.string (σ j))) := fun j hj => (hst.below.cell (by exact hb)).trans (HC.out j hj)
      have HV6 : Hid (Vals w6 w.heap.size a1 len1 ν) := Vals.below HV.out hst.below
      clear haf hst hown6 hturn6 hown hfil hbel hmm
      generalize w4.heap.size = S at *
      go_wp2
      go_loopw [11, 12] (fun d i wx => ∃ (m nd : Nat), m ≤ k ∧ i = .int .i64 m ∧ d = .int .i64 (Pl.dc κ m) ∧ wx = w6.drewN nd) (fun _ i _ => k - (intOf i).toNat)
      case atStart => exact ⟨0, 0, Nat.zero_le _, rfl, rfl, rfl⟩
      case round =>
        obtain ⟨m, nd, hm, rfl, rfl, rfl⟩ := hrel
        have hdc := Pl.dc_le κ m
        by_cases hmk : m < k
        · have hcm := HC6.out m hmk
          go_wp2
          go_loopw [13, 14] (fun f j wy => ∃ q ne : Nat, q ≤ m ∧ j = .int .i64 q ∧ f = .bool true ∧ Hid (∀ x, x < q → κ x ≠ κ m) ∧ wy = w6.drewN ne) (fun _ j _ => m - (intOf j).toNat)
          case atStart => exact ⟨0, nd, Nat.zero_le _, rfl, rfl, fun x hx => absurd hx (Nat.not_lt_zero _), rfl⟩
          case round =>
            obtain ⟨q, ne, hq, rfl, rfl, hx, rfl⟩ := hrel
            by_cases hqm : q < m
            · have hcq := HC6.out q (by omega)
              have i1 : (q : Int) < (k : Int) := by omega
              have i2 : (m : Int) < (k : Int) := by omega
              go_wp2
              go_quiet (fail)
              go_wp2
              · have e : κ q = κ m := by rw [HK.out, HK.out]; exact key_eq (by assumption)
                have hd : Pl.dc κ (m + 1) = Pl.dc κ m := Pl.dc_old (fun hf => hf q hqm e)
                go_roundw
                case rel => exact ⟨m + 1, ne + nq, by omega, by go_num, by rw [hd], rfl⟩
                case measure => simp [intOf]; omega
              · have e : κ q ≠ κ m := by rw [HK.out, HK.out]; exact key_ne (by assumption)
                go_roundw
                case rel => exact ⟨q + 1, ne + nq, by omega, by go_num, rfl, fun x h1 => by rcases Nat.lt_or_ge x q with h2 | h2; exact hx.out x h2; (have : x = q := by omega); subst this; exact e, rfl⟩
                case measure => simp [intOf]; omega
            · have : q = m := by omega
              subst this
              have hd : Hid (Pl.dc κ (q + 1) = Pl.dc κ q + 1) := Pl.dc_fresh hx.out
              go_wp2
              go_roundw
              case rel => exact ⟨q + 1, ne, by omega, by go_num, by rw [hd.out]; go_num, rfl⟩
              case measure => simp [intOf]; omega
        · have hmk' : m = k := by omega
          subst hmk'
          go_wp2
          go_loopw [15, 16, 17] (fun f x i wx => ∃ (q ne : Nat) (F : Bool) (X : Int), q ≤ m ∧ i = .int .i64 q ∧ f = .bool F ∧ x = .int .i64 X ∧ wx = w6.drewN ne ∧ Hid ((F = true → ∃ l, Pl.IsLast κ q nm.data.toList l ∧ X = ν l) ∧ (F = false → ∀ j, j < q → κ j ≠ nm.data.toList))) (fun _ _ i _ => m - (intOf i).toNat)
          case atStart => exact ⟨0, nd, false, 0, Nat.zero_le _, rfl, rfl, rfl, rfl, fun c => (by cases c), fun _ j hj => absurd hj (Nat.not_lt_zero _)⟩
          case round =>
            obtain ⟨q, ne, F, X, hq, rfl, rfl, rfl, rfl, hx⟩ := hrel
            by_cases hqm : q < m
            · have hcq := HC6.out q hqm
              go_wp2_with (first | (go_at_call 6; refine (val_any a1 len1 cap1 w.heap.size q ν _ (by exact Vals.drewN HV6.out _)).mono ?_; rintro e w' ⟨rfl, rfl⟩) | fail)
              · have e : κ q = nm.data.toList := by rw [HK.out]; exact key_eq (by assumption)
                go_roundw
                case rel => exact ⟨q + 1, ne, true, ν q, by omega, by go_num, rfl, rfl, rfl, step4_hit e⟩
                case measure => simp [intOf]; omega
              · have e : κ q ≠ nm.data.toList := by rw [HK.out]; exact key_ne (by assumption)
                go_roundw
                case rel => exact ⟨q + 1, ne, F, X, by omega, by go_num, rfl, rfl, rfl, step4_miss e hx.out⟩
                case measure => simp [intOf]; omega
            · have hqm' : q = m := by omega
              subst hqm'
              obtain ⟨e1, e2⟩ := end4 HA.out hx.out.1 hx.out.2
              subst e1
              have c23 := HS.out.c23
              have hown6 := HS.out.own
              have hsz := HA.out.size
              cases F with
              | true =>
                have e3 : X = got := e2 rfl
                subst e3
                clear e2
                have hsz' : Maps.size D' = Pl.dc κ q := by simpa using hsz
                clear hsz
                have hlen6 := fun (ty : TypeId) (d : Nat) => World.ownsMap.len (w := w6.drewN d) hown6 Yba.underlying24 ty
                rw [hsz'] at hlen6
                go_wp2
                clear hlen6
                clear hsz' hown6
                go_loopw [19] (fun i wx => ∃ (m2 nf : Nat), m2 ≤ q ∧ i = .int .i64 m2 ∧ wx = w6.drewN nf) (fun i _ => q - (intOf i).toNat)
                case atStart => exact ⟨0, ne, Nat.zero_le _, rfl, rfl⟩
                case round =>
                  obtain ⟨m2, nf, hm2, rfl, rfl⟩ := hrel
                  by_cases hmq : m2 < q
                  · have hcm := HC6.out m2 hmq
                    have i2 : (m2 : Int) < (q : Int) := by omega
                    go_wp2
                    go_loopw [20, 21] (fun l j wy => ∃ r ng : Nat, m2 ≤ r ∧ r < q ∧ j = .int .i64 r ∧ l = .int .i64 m2 ∧ Hid (∀ x, r < x → x < q → κ x ≠ κ m2) ∧ wy = w6.drewN ng) (fun _ j _ => (intOf j).toNat)
                    case atStart => exact ⟨q - 1, nf, by omega, by omega, by go_num, rfl, fun x h1 h2 => by omega, rfl⟩
                    case round =>
                      obtain ⟨r, ng, hr1, hr2, rfl, rfl, hx2, rfl⟩ := hrel
                      by_cases hmr : m2 < r
                      · have hcr := HC6.out r hr2
                        have i1 : (r : Int) < (q : Int) := by omega
                        go_wp2
                        go_quiet (fail)
                        go_wp2
                        · have e : κ r = κ m2 := by rw [HK.out, HK.out]; exact key_eq (by assumption)
                          have hL : Pl.IsLast κ q (κ m2) r := ⟨hr2, e, hx2.out⟩
                          have hlk := look_last HA.out HS.out (hσ m2) (HK.out m2) hL
                          clear hL e
                          go_quiet (fail)
                          go_wp2_with (first | (go_at_call 6; refine (val_any a1 len1 cap1 w.heap.size r ν _ (by exact Vals.drewN HV6.out _)).mono ?_; rintro e w' ⟨rfl, rfl⟩) | fail)
                          go_roundw
                          case rel => exact ⟨m2 + 1, _, by omega, by go_num, rfl⟩
                          case measure => simp [intOf]; omega
                        · have e : κ r ≠ κ m2 := by rw [HK.out, HK.out]; exact key_ne (by assumption)
                          go_roundw
                          case rel => exact ⟨r - 1, ng + nq, by omega, by omega, by go_num, rfl, fun x h1 h2 => by rcases Nat.lt_or_ge r x with h3 | h3; exact hx2.out x h3 h2; (have : x = r := by omega); subst this; exact e, rfl⟩
                          case measure => simp [intOf]; omega
                      · have hmr' : r = m2 := by omega
                        subst hmr'
                        have hL : Pl.IsLast κ q (κ r) r := ⟨hr2, rfl, hx2.out⟩
                        have hlk := look_last HA.out HS.out (hσ r) (HK.out r) hL
                        clear hL
                        go_wp2
                        go_quiet (fail)
                        go_wp2_with (first | (go_at_call 6; refine (val_any a1 len1 cap1 w.heap.size r ν _ (by exact Vals.drewN HV6.out _)).mono ?_; rintro e w' ⟨rfl, rfl⟩) | fail)
                        go_roundw
                        case rel => exact ⟨r + 1, _, by omega, by go_num, rfl⟩
                        case measure => simp [intOf]; omega
                  · have hmq' : m2 = q := by omega
                    subst hmq'
                    have hln := look_name HA.out HS.out hnm
                    have c0 := HS.out.c0
                    have c24 := HS.out.c24
                    have c27 := HS.out.c27
                    have c28 := HS.out.c28
                    have c29 := HS.out.c29
                    have q27 := nil27
                    have q38 := nil38
                    have q41 := nil41
                    have q42 := nil42
                    go_wp2
                    go_ret
                    exact ⟨rfl, below_drewN' HS.out.below _⟩
              | false =>
                clear e2
                have hgd : got = (Pl.dc κ q : Int) := (HA.out.no rfl).2
                subst hgd
                have hsz' : Maps.size D' = Pl.dc κ q + 1 := by simpa using hsz
                clear hsz
                have hlen6 := fun (ty : TypeId) (d : Nat) => World.ownsMap.len (w := w6.drewN d) hown6 Yba.underlying24 ty
                rw [hsz'] at hlen6
                go_wp2
                clear hlen6
                clear hsz' hown6
                go_loopw [19] (fun i wx => ∃ (m2 nf : Nat), m2 ≤ q ∧ i = .int .i64 m2 ∧ wx = w6.drewN nf) (fun i _ => q - (intOf i).toNat)
                case atStart => exact ⟨0, ne, Nat.zero_le _, rfl, rfl⟩
                case round =>
                  obtain ⟨m2, nf, hm2, rfl, rfl⟩ := hrel
                  by_cases hmq : m2 < q
                  · have hcm := HC6.out m2 hmq
                    have i2 : (m2 : Int) < (q : Int) := by omega
                    go_wp2
                    go_loopw [20, 21] (fun l j wy => ∃ r ng : Nat, m2 ≤ r ∧ r < q ∧ j = .int .i64 r ∧ l = .int .i64 m2 ∧ Hid (∀ x, r < x → x < q → κ x ≠ κ m2) ∧ wy = w6.drewN ng) (fun _ j _ => (intOf j).toNat)
                    case atStart => exact ⟨q - 1, nf, by omega, by omega, by go_num, rfl, fun x h1 h2 => by omega, rfl⟩
                    case round =>
                      obtain ⟨r, ng, hr1, hr2, rfl, rfl, hx2, rfl⟩ := hrel
                      by_cases hmr : m2 < r
                      · have hcr := HC6.out r hr2
                        have i1 : (r : Int) < (q : Int) := by omega
                        go_wp2
                        go_quiet (fail)
                        go_wp2
                        · have e : κ r = κ m2 := by rw [HK.out, HK.out]; exact key_eq (by assumption)
                          have hL : Pl.IsLast κ q (κ m2) r := ⟨hr2, e, hx2.out⟩
                          have hlk := look_last HA.out HS.out (hσ m2) (HK.out m2) hL
                          clear hL e
                          go_quiet (fail)
                          go_wp2_with (first | (go_at_call 6; refine (val_any a1 len1 cap1 w.heap.size r ν _ (by exact Vals.drewN HV6.out _)).mono ?_; rintro e w' ⟨rfl, rfl⟩) | fail)
                          go_roundw
                          case rel => exact ⟨m2 + 1, _, by omega, by go_num, rfl⟩
                          case measure => simp [intOf]; omega
                        · have e : κ r ≠ κ m2 := by rw [HK.out, HK.out]; exact key_ne (by assumption)
                          go_roundw
                          case rel => exact ⟨r - 1, ng + nq, by omega, by omega, by go_num, rfl, fun x h1 h2 => by rcases Nat.lt_or_ge r x with h3 | h3; exact hx2.out x h3 h2; (have : x = r := by omega); subst this; exact e, rfl⟩
                          case measure => simp [intOf]; omega
                      · have hmr' : r = m2 := by omega
                        subst hmr'
                        have hL : Pl.IsLast κ q (κ r) r := ⟨hr2, rfl, hx2.out⟩
                        have hlk := look_last HA.out HS.out (hσ r) (HK.out r) hL
                        clear hL
                        go_wp2
                        go_quiet (fail)
                        go_wp2_with (first | (go_at_call 6; refine (val_any a1 len1 cap1 w.heap.size r ν _ (by exact Vals.drewN HV6.out _)).mono ?_; rintro e w' ⟨rfl, rfl⟩) | fail)
                        go_roundw
                        case rel => exact ⟨r + 1, _, by omega, by go_num, rfl⟩
                        case measure => simp [intOf]; omega
                  · have hmq' : m2 = q := by omega
                    subst hmq'
                    have hln := look_name HA.out HS.out hnm
                    have c0 := HS.out.c0
                    have c24 := HS.out.c24
                    have c27 := HS.out.c27
                    have c28 := HS.out.c28
                    have c29 := HS.out.c29
                    have q27 := nil27
                    have q38 := nil38
                    have q41 := nil41
                    have q42 := nil42
                    go_wp2
                    go_ret
                    exact ⟨rfl, below_drewN' HS.out.below _⟩

set_option maxRecDepth 100000 in
theorem whole_long (a : Option Addr) (len cap : Nat) (a1 : Option Addr) (len1 cap1 : Nat) (nm : ByteArray) (w : World) (hl : 4096 < len) (hm : len ≤ maxLen) :
    Calls Yba.prog 3 #[.slice a len cap, .slice a1 len1 cap1, .string nm] w fun e w' => e = .returned (.bool true) ∧ Below w.heap.size w w' := by
  unfold maxLen at hm
  go_enter Yba.func3, Yba.ntmps3
  go_wp2
  go_ret
  exact ⟨rfl, Below.refl _ _⟩

set_option maxHeartbeats 400000 in
set_option maxRecDepth 100000 in
theorem whole_none (a : Option Addr) (cap : Nat) (a1 : Option Addr) (len1 cap1 : Nat) (nm : ByteArray) (w : World) (hnm : nm.size ≤ maxLen) :
    Calls Yba.prog 3 #[.slice a 0 cap, .slice a1 len1 cap1, .string nm] w fun e w' => e = .returned (.bool true) ∧ Below w.heap.size w w' := by
  have hmm := @run_makeMap Yba.prog
  go_enter Yba.func3, Yba.ntmps3
  go_wp2
  refine wp_loop_rounds 1 ?_
  rw [rounds_succ]
  go_wp2_with fail
  refine (slot_gen (w.heap.size + 1) w.heap.size 0 (.map []) (fun _ => []) (fun _ => 0) nm _ hnm (by rw [World.cell?_alloc_at _ _ _ _ (by simp)]; rfl) ((World.ownsMap_made _ _ _ _).alloc _) (by omega) (Pl.filled_start _ _)).mono ?_
  rintro e w6 ⟨got, fnd, D', rfl, haf, hown6, hturn6⟩
  have hst := stand_of (w := w) (wr := w.alloc (.map #[] 0)) (D := .map []) (n := 0) ((Below.refl _ _).alloc (Nat.le_refl _) _) (World.ownsMap_made _ _ _ _) (by rfl) (by rfl) (by rfl) (by rfl) (by rfl) (by rfl) hown6 hturn6
  rw [World.size_alloc] at hst
  have hf : fnd = false := by
    cases fnd with
    | false => rfl
    | true => obtain ⟨L, hL, _⟩ := haf.yes rfl; exact absurd hL.1 (Nat.not_lt_zero _)
  subst hf
  have hg : got = 0 := (haf.no rfl).2
  subst hg
  have hsz : Maps.size D' = 1 := haf.size
  have hln := look_name haf hst hnm 0
  have hln' : (Instr.lookup 24 (.map (some w.heap.size)) (.string nm) true).run Yba.prog w6 = .ok (.tuple #[.int .i64 0, .bool true]) w6 := hln
  have hbe := hst.below
  obtain ⟨c23, c0, c24, c27, c28, c29, _, _⟩ := hst
  have q27 := nil27
  have q38 := nil38
  have q41 := nil41
  have q42 := nil42
  have hlen := fun ty => hown6.len Yba.underlying24 ty
  rw [hsz] at hlen
  clear haf hown6 hturn6 hln hsz
  go_wp2
  refine wp_loop_rounds 1 ?_
  rw [rounds_succ]
  go_wp2
  refine wp_loop_rounds 1 ?_
  rw [rounds_succ]
  go_wp2
  refine wp_loop_rounds 1 ?_
  rw [rounds_succ]
  go_wp2
  go_ret
  exact ⟨rfl, hbe⟩

theorem whole_any (a : Option Addr) (len cap : Nat) (σ : Nat → ByteArray) (a1 : Option Addr) (len1 cap1 : Nat) (ν : Nat → Int) (nm : ByteArray) (w : World) (h : Words w a len σ) (hv : Vals w w.heap.size a1 len1 ν) (hnm : nm.size ≤ maxLen) :
    Calls Yba.prog 3 #[.slice a len cap, .slice a1 len1 cap1, .string nm] w fun e w' => e = .returned (.bool true) ∧ Below w.heap.size w w' := by
  obtain ⟨hσ, hm, rfl | ⟨b, off, rfl, hb, hc⟩⟩ := h
  · exact whole_none a cap a1 len1 cap1 nm w hnm
  · by_cases h0 : len = 0
    · subst h0; exact whole_none _ cap a1 len1 cap1 nm w hnm
    · by_cases h1 : 4096 < len
      · exact whole_long _ len cap a1 len1 cap1 nm w h1 hm
      · exact whole_walk b off len cap σ a1 len1 cap1 ν nm w (by omega) (by omega) hb hc hσ hv hnm

/-- The slice of values that came in, opened. -/
theorem open_vals {H : Type} {enc : TypeId × Value → H} {W : World} {a : Option Addr} {len cap : Nat} {d : DataW H} {p : List MemPlace}
    (h : DataW.Trod enc Yba.prog W 0 (fun _ => true) true 23 (.slice a len cap) d p) (hlt : ∀ x ∈ p, x.block < W.heap.size) : ∃ ν, Vals W W.heap.size a len ν := by
  obtain ⟨fuel, hf⟩ := h
  rcases open_ints Yba.underlying23 Yba.underlying3 (by kernel_rfl) hf with ⟨hcs, hx⟩ | ⟨x, l, c, zs, hcs, _, hl, hm, hz, hx, hcell, hws⟩
  · simp [Value.cells] at hcs
    obtain ⟨rfl, rfl, rfl⟩ := hcs
    exact ⟨fun k => k, Nat.zero_le _, fun _ _ => rfl, fun k hk => (show (Lit.int .i64 (k : Int)).wf = true from WalkArith.wf_i64 (by omega)), .inl rfl⟩
  · simp [Value.cells] at hcs
    obtain ⟨rfl, rfl, rfl⟩ := hcs
    simp only [if_true] at hz
    simp only [Prod.mk.injEq] at hx
    obtain ⟨_, rfl⟩ := hx
    refine ⟨fun k => if k < len then zs.getD k 0 else k, by omega, fun k hk => if_neg (by omega), fun k hk => ?_, ?_⟩
    · show (Lit.int .i64 (if k < len then zs.getD k 0 else (k : Int))).wf = true
      by_cases hkl : k < len
      · rw [if_pos hkl]
        have hkz : k < zs.length := by omega
        have e : zs.getD k 0 = zs[k] := by simp [List.getD, List.getElem?_eq_getElem hkz]
        rw [e]
        exact hws _ (List.getElem_mem hkz)
      · rw [if_neg hkl]
        exact WalkArith.wf_i64 (by omega)
    · by_cases hl0 : len = 0
      · exact .inl hl0
      · right
        obtain ⟨b, off, spot⟩ := x
        have hspot : spot = none := by simpa [Addr.add] using World.cell?_spot (hcell 0 (by omega))
        subst hspot
        refine ⟨b, off, rfl, hlt (.cell b off) (MemPlace.mem_row.2 ⟨0, by omega, by simp⟩), fun j hj => ?_⟩
        show _ = some (Value.int .i64 (if j < len then zs.getD j 0 else (j : Int)))
        rw [if_pos hj, ← add_plain]
        exact hcell j (by omega)
end Go.Proofs.Ybulkdmay
