/-
  Seat b5653a, project quillet: the walk of 'LawS5653BScript': three loops (one inside another), two slices and a map of the call's own. My own text.
-/
import Derived.Test.YbulkdmayPlain
import Derived.Test.YbulkdmaySlot
import Derived.Deep.QuietTactic
import Derived.BigQuiet
import Derived.Deep.RegionHeld3
namespace Go.Proofs.Ybulkdmay
open Go.ChangeShapes Go.WideShapes Go.ChangeAt Go.RowKit Go.Maps Go.WideMaps
set_option linter.unusedVariables false

theorem Yba.info3 : (Yba.prog.info? 3).map (fun i => (i.zero, i.size, i.bytes)) = some (some (.int .i64 0), 1, 8) := by kernel_rfl

/-- Block b holds the numbers g 0 .. g (n - 1), and may be written. -/
def Nums (w : World) (b n : Nat) (g : Nat → Int) : Prop := ∀ k, k < n → w.cell? ⟨b, k, none⟩ = some (.int .i64 (g k)) ∧ w.frozen? ⟨b, k, none⟩ = false

theorem nums_made {w : World} {base n g : Nat} (h : w.ownsRow base 3 1 (.slice (some ⟨g, 0, none⟩) n n) n (madeCells (Value.int .i64 0).cells (n * 1)).toList) : Nums w g n (fun _ => 0) := by
  intro k hk
  refine ⟨?_, h.frozenAt k⟩
  rw [h.cellAt k (by omega)]
  have e : (madeCells (Value.int .i64 0).cells (n * 1)).toList = List.replicate (n * 1) (.int .i64 0) := toList_madeCells_one _ _
  rw [e]
  simp [List.getElem?_replicate]
  omega
theorem Nums.grown {w w' : World} {b n : Nat} {g : Nat → Int} {row : Option Nat} (h : Nums w b n g) (hg : w.grownBy w' row) (hb : b < w.heap.size) (hne : some b ≠ row) : Nums w' b n g := fun k hk =>
  have e := hg.block b hb hne
  ⟨(World.cell?_of_block (a := ⟨b, k, none⟩) e).trans (h k hk).1, (World.frozen?_of_block (a := ⟨b, k, none⟩) e).trans (h k hk).2⟩
theorem Nums.set {w : World} {b n : Nat} {g : Nat → Int} (h : Nums w b n g) {i : Nat} (hi : i < n) (z : Int) : Nums (w.setCell ⟨b, i, none⟩ (.int .i64 z)) b n (fun k => if k = i then z else g k) := by
  intro k hk
  refine ⟨?_, by simpa using (h k hk).2⟩
  by_cases e : k = i
  · subst e
    rw [World.cell?_setCell_same _ _ _ (h k hk).1]
    simp
  · rw [World.cell?_setCell_other _ _ _ _ (by intro c; apply e; cases c; rfl), (h k hk).1]
    simp [e]
theorem Nums.other {w : World} {b b' n i : Nat} {g : Nat → Int} {v : Value} (h : Nums w b n g) (hne : b ≠ b') : Nums (w.setCell ⟨b', i, none⟩ v) b n g := by
  intro k hk
  refine ⟨?_, by simpa using (h k hk).2⟩
  rw [World.cell?_setCell_other _ _ _ _ (by intro c; apply hne; cases c; rfl)]
  exact (h k hk).1
theorem Nums.drewN {w : World} {b n : Nat} {g : Nat → Int} (h : Nums w b n g) (d : Nat) : Nums (w.drewN d) b n g := fun k hk => by simpa using h k hk
theorem below_drewN' {B : Nat} {w w' : World} (h : Below B w w') (d : Nat) : Below B w (w'.drewN d) := ⟨h.os, h.tape, h.output, h.size, h.block⟩

/-- What holds at the head of the first loop's k-th round: 'firstAt' and 'rank' are filled so far. -/
def Rel1 (w : World) (R len : Nat) (κ : Nat → List UInt8) (k : Nat) (F Rk : Nat → Int) (wr : World) : Prop :=
  Nums wr w.heap.size len F ∧ Nums wr R len Rk ∧ (∀ m, m < k → ∃ f : Nat, F m = f ∧ Pl.IsFst κ m f) ∧ (∀ m, m < k → Pl.fresh κ m → Rk m = Pl.dc κ m) ∧ Below w.heap.size w wr ∧ R < wr.heap.size ∧ w.heap.size < R
theorem size_setCell' (w : World) (a : Addr) (v : Value) : (w.setCell a v).heap.size = w.heap.size := by simp [World.setCell]
theorem rel1_old {w wr : World} {R len k m : Nat} {κ : Nat → List UInt8} {F Rk : Nat → Int} (h : Rel1 w R len κ k F Rk wr) (hk : k < len) (hm : m < k) (hq : ∀ q, q < m → κ q ≠ κ k) (e : κ m = κ k) (nd : Nat) :
    (∃ F', Rel1 w R len κ (k + 1) F' Rk ((wr.drewN nd).setCell ⟨w.heap.size, k, none⟩ (.int .i64 m))) ∧ Pl.dc κ k = Pl.dc κ (k + 1) := by
  obtain ⟨nA, nR, hF, hRk, hb, hs, hAR⟩ := h
  have hnf : ¬ Pl.fresh κ k := fun hf => hf m hm e
  refine ⟨⟨_, (nA.drewN nd).set hk m, (nR.drewN nd).other (by omega), fun j hj => ?_, fun j hj hf => ?_, (below_drewN' hb nd).setCell (Nat.le_refl _) _, by rw [size_setCell']; exact hs, hAR⟩, (Pl.dc_old hnf).symm⟩
  · by_cases hjk : j = k
    · subst hjk
      exact ⟨m, by simp, by omega, e, hq⟩
    · obtain ⟨f, e1, e2⟩ := hF j (by omega)
      exact ⟨f, by simp [hjk, e1], e2⟩
  · by_cases hjk : j = k
    · subst hjk; exact absurd hf hnf
    · exact hRk j (by omega) hf
theorem rel1_new {w wr : World} {R len k : Nat} {κ : Nat → List UInt8} {F Rk : Nat → Int} (h : Rel1 w R len κ k F Rk wr) (hk : k < len) (hq : ∀ q, q < k → κ q ≠ κ k) (nd : Nat) :
    (∃ F' Rk', Rel1 w R len κ (k + 1) F' Rk' (((wr.drewN nd).setCell ⟨w.heap.size, k, none⟩ (.int .i64 k)).setCell ⟨R, k, none⟩ (.int .i64 (Pl.dc κ k)))) ∧ Pl.dc κ k + 1 = Pl.dc κ (k + 1) := by
  obtain ⟨nA, nR, hF, hRk, hb, hs, hAR⟩ := h
  refine ⟨⟨_, _, ((nA.drewN nd).set hk k).other (by omega), ((nR.drewN nd).other (by omega)).set hk _, fun j hj => ?_, fun j hj hf => ?_, ((below_drewN' hb nd).setCell (Nat.le_refl _) _).setCell (by simp; omega) _, by rw [size_setCell', size_setCell']; exact hs, hAR⟩, (Pl.dc_fresh hq).symm⟩
  · by_cases hjk : j = k
    · subst hjk
      exact ⟨j, by simp, by omega, rfl, hq⟩
    · obtain ⟨f, e1, e2⟩ := hF j (by omega)
      exact ⟨f, by simp [hjk, e1], e2⟩
  · by_cases hjk : j = k
    · subst hjk; simp
    · simp [hjk, hRk j (by omega) hf]
theorem key_eq {s t : ByteArray} (h : (s.toList == t.toList) = true) : s.data.toList = t.data.toList := by
  rw [beq_iff_eq, ByteArray.toList_eq, ByteArray.toList_eq] at h
  exact h
theorem key_ne {s t : ByteArray} (h : (s.toList == t.toList) = false) : s.data.toList ≠ t.data.toList := by
  rw [beq_eq_false_iff_ne, ByteArray.toList_eq, ByteArray.toList_eq] at h
  exact h

/-- What holds at the head of the third loop's k-th round: the map holds the first k names, each with its rank. -/
def Rel3 (w : World) (R len : Nat) (κ : Nat → List UInt8) (F Rk : Nat → Int) (M k : Nat) (D : DataW Unit) (wx : World) : Prop :=
  Nums wx w.heap.size len F ∧ Nums wx R len Rk ∧ wx.cell? ⟨M + 1, 23, none⟩ = some (.map (some M)) ∧ wx.ownsMap Yba.prog 9 (plainElem Yba.prog 3) M k D ∧ Pl.Ranked D κ k ∧ Below w.heap.size w wx ∧ R < M ∧ w.heap.size < R ∧ M + 1 < wx.heap.size
theorem rel3_start {w wr : World} {R len : Nat} {κ : Nat → List UInt8} {F Rk : Nat → Int} {k : Nat} (h : Rel1 w R len κ k F Rk wr) (cs : Array Value) (h23 : cs[23]? = some (.map (some wr.heap.size))) :
    Rel3 w R len κ F Rk wr.heap.size 0 (.map []) ((wr.alloc (.map #[] 0)).alloc (.cells cs 44)) := by
  obtain ⟨nA, nR, hF, hRk, hb, hs, hAR⟩ := h
  have e : (wr.alloc (.map #[] 0)).heap.size = wr.heap.size + 1 := by simp
  refine ⟨(nA.grown (World.grownBy_alloc _ _ none) (by omega) (by simp)).grown (World.grownBy_alloc _ _ none) (by omega) (by simp), (nR.grown (World.grownBy_alloc _ _ none) (by omega) (by simp)).grown (World.grownBy_alloc _ _ none) (by omega) (by simp), ?_, (World.ownsMap_made _ _ _ _).alloc _, Pl.ranked_start κ, (hb.alloc (by omega) _).alloc (by omega) _, hs, hAR, by simp⟩
  rw [World.cell?_alloc_at _ _ _ _ e.symm]
  exact h23
theorem rel3_old {w wx : World} {R len M k : Nat} {κ : Nat → List UInt8} {F Rk : Nat → Int} {D : DataW Unit} (h : Rel3 w R len κ F Rk M k D wx) (hh : Maps.has D (.string (κ k)) = true) (nd : Nat) : Rel3 w R len κ F Rk M (k + 1) D (wx.drewN nd) := by
  obtain ⟨nA, nR, c0, hown, hrk, hb, hs, hAR, hM⟩ := h
  exact ⟨nA.drewN nd, nR.drewN nd, c0, World.ownsMap.mono (w := wx.drewN nd) hown (Nat.le_succ _), hrk.old hh, below_drewN' hb nd, hs, hAR, hM⟩
theorem rel3_new {w wx w' : World} {R len M k : Nat} {κ : Nat → List UInt8} {F Rk : Nat → Int} {D : DataW Unit} (h : Rel3 w R len κ F Rk M k D wx) (hh : Maps.has D (.string (κ k)) = false) (nd ne : Nat)
    (hown' : w'.ownsMap Yba.prog 9 (plainElem Yba.prog 3) M (k + 1) (D.put (.string (κ k)) (.lit (.int .i64 (Maps.size D))))) (ht : (wx.drewN nd).mapTurned w' M) : Rel3 w R len κ F Rk M (k + 1) (D.put (.string (κ k)) (.lit (.int .i64 (Maps.size D)))) (w'.drewN ne) := by
  obtain ⟨nA, nR, c0, hown, hrk, hb, hs, hAR, hM⟩ := h
  have hg := ht.grown
  have hsz : wx.heap.size ≤ w'.heap.size := hg.size
  have hn : ∀ {b : Nat} {g : Nat → Int}, Nums wx b len g → b < M → Nums (w'.drewN ne) b len g := fun hN hbM => ((hN.drewN nd).grown hg (by simp; omega) (by simp; omega)).drewN ne
  refine ⟨hn nA (by omega), hn nR hs, ?_, hown', (hrk.new hh).2, below_drewN' ((below_drewN' hb nd).grown hg (by simp; have := hb.size; omega) (fun j hj => by cases hj; omega)) ne, hs, hAR, by simp; omega⟩
  exact (World.cell?_of_block (a := ⟨M + 1, 23, none⟩) (hg.block (M + 1) (by simp; omega) (by simp))).trans c0

set_option maxHeartbeats 1000000 in
set_option maxRecDepth 100000 in
theorem script_walk (b off len cap : Nat) (σ : Nat → ByteArray) (w : World) (hl0 : 0 < len) (hlen : len ≤ 4096) (hb : b < w.heap.size) (hc : ∀ j, j < len → w.cell? ⟨b, off + j, none⟩ = some (.string (σ j))) (hσ : ∀ j, (σ j).size ≤ maxLen) :
    Calls Yba.prog 4 #[.slice (some ⟨b, off, none⟩) len cap] w fun e w' => e = .returned (.bool true) ∧ Below w.heap.size w w' := by
  obtain ⟨i0, hi, hz0, hz1, hz2⟩ := info_parts Yba.info3
  have hmm := @run_makeMap Yba.prog
  go_enter Yba.func4, Yba.ntmps4
  go_wp2_with (first
    | (at_make; refine wpList_make_full _ rfl (.tmp 17) (.tmp 17) 23 rfl w.heap.size 3 i0 (.int .i64 0) 1 Yba.underlying23 hi hz0 hz1 .i64 .i64 _ _ len rfl rfl rfl rfl (by rw [hz2]; omega) (by unfold maxLen; omega) (by simp) ?_; intro w1 hown1 hgrow1)
    | (at_make; refine wpList_make_full _ rfl (.tmp 19) (.tmp 19) 23 rfl w.heap.size 3 i0 (.int .i64 0) 1 Yba.underlying23 hi hz0 hz1 .i64 .i64 _ _ len rfl rfl rfl rfl (by rw [hz2]; omega) (by unfold maxLen; omega) (by have := hgrow1.size; omega) ?_; intro w2 hown2 hgrow2)
    | fail)
  obtain ⟨κ, hκ⟩ : ∃ κ : Nat → List UInt8, κ = fun j => (σ j).data.toList := ⟨_, rfl⟩
  have HK : Hid (∀ j, κ j = (σ j).data.toList) := fun j => by rw [hκ]
  clear hκ
  have hA : w.heap.size < w1.heap.size := by
    have := (hown1.lt w.heap.size rfl).2
    exact this
  have hR : w1.heap.size < w2.heap.size := (hown2.lt w1.heap.size rfl).2
  have hbel2 : Below w.heap.size w w2 := ((Below.refl _ _).grown hgrow1 (Nat.le_refl _) (fun k hk => by cases hk)).grown hgrow2 (by omega) (fun k hk => by cases hk)
  have nR := nums_made hown2
  have nA := (nums_made hown1).grown hgrow2 (by omega) (fun h => by cases h)
  clear hown1 hown2 hgrow1 hgrow2
  generalize w1.heap.size = R at *
  go_loopw [6, 7] (fun d i wr => ∃ (k : Nat) (F Rk : Nat → Int), k ≤ len ∧ i = .int .i64 k ∧ d = .int .i64 (Pl.dc κ k) ∧ Rel1 w R len κ k F Rk wr)
    (fun _ i _ => len - (intOf i).toNat)
  case atStart => exact ⟨0, _, _, Nat.zero_le _, rfl, rfl, nA, nR, fun m hm => absurd hm (Nat.not_lt_zero _), fun m hm => absurd hm (Nat.not_lt_zero _), hbel2, hR, hA⟩
  case round =>
    revert wr
    intro w4 hrel
    clear nA nR hbel2 hR
    obtain ⟨k, F, Rk, hk, rfl, rfl, hr⟩ := hrel
    have hcx : ∀ j, j < len → w4.cell? ⟨b, off + j, none⟩ = some (.string (σ j)) := fun j hj => (hr.2.2.2.2.1.cell (by exact hb)).trans (hc j hj)
    have HC : Hid (∀ j, j < len → w4.cell? ⟨b, off + j, none⟩ = some (.string (σ j))) := hcx
    have HC0 : Hid (∀ j, j < len → w.cell? ⟨b, off + j, none⟩ = some (.string (σ j))) := hc
    clear hcx hc
    have hdc := Pl.dc_le κ k
    by_cases hlt : k < len
    · have hck := HC.out k hlt
      have hA1 := (hr.1 k hlt).1
      have hA2 := (hr.1 k hlt).2
      have hR1 : ∀ (nd : Nat) (v : Value), ((w4.drewN nd).setCell ⟨w.heap.size, k, none⟩ v).cell? ⟨R, k, none⟩ = some (.int .i64 (Rk k)) := fun nd v => (((hr.2.1.drewN nd).other (by omega)) k hlt).1
      have hR2 := (hr.2.1 k hlt).2
      go_wp2
      go_loopw [8, 9] (fun f j wx => ∃ m nd : Nat, m ≤ k ∧ j = .int .i64 m ∧ f = .int .i64 k ∧ Hid (∀ q, q < m → κ q ≠ κ k) ∧ wx = w4.drewN nd) (fun _ j _ => k - (intOf j).toNat)
      case atStart => exact ⟨0, 0, Nat.zero_le _, rfl, rfl, fun q hq => absurd hq (Nat.not_lt_zero _), rfl⟩
      case round =>
        obtain ⟨m, nd, hm, rfl, rfl, hq, rfl⟩ := hrel
        by_cases hmk : m < k
        · have hcm := HC.out m (by omega)
          have i1 : (m : Int) < (len : Int) := by omega
          have i2 : (k : Int) < (len : Int) := by omega
          have i3 : ((m : Int) == (k : Int)) = false := beq_eq_false_iff_ne.2 (by omega)
          go_wp2
          go_quiet (fail)
          go_wp2
          · have e : κ m = κ k := by rw [HK.out, HK.out]; exact key_eq (by assumption)
            obtain ⟨⟨F', hr'⟩, hd⟩ := rel1_old hr hlt hmk hq.out e (nd + nq)
            go_roundw
            case rel => exact ⟨k + 1, F', Rk, by omega, by go_num, by rw [hd], hr'⟩
            case measure => simp [intOf]; omega
          · have e : κ m ≠ κ k := by rw [HK.out, HK.out]; exact key_ne (by assumption)
            go_roundw
            case rel => exact ⟨m + 1, nd + nq, by omega, by go_num, rfl, fun q h1 => by rcases Nat.lt_or_ge q m with h2 | h2; exact hq.out q h2; (have : q = m := by omega); subst this; exact e, rfl⟩
            case measure => simp [intOf]; omega
        · have : m = k := by omega
          subst this
          obtain ⟨⟨F', Rk', hr'⟩, hd⟩ := rel1_new hr hlt hq.out nd
          have Hr : Hid _ := hr'
          have Hd : Hid _ := hd
          clear hr' hd
          go_wp2
          go_roundw
          case rel => exact ⟨m + 1, F', Rk', by omega, by go_num, by rw [← Hd.out]; go_num, Hr.out⟩
          case measure => simp [intOf]; omega
    · have hkl : k = len := by omega
      subst hkl
      go_wp2
      go_loopw [11] (fun i wx => ∃ (j : Nat) (D : DataW Unit), j ≤ k ∧ i = .int .i64 j ∧ Rel3 w R k κ F Rk w4.heap.size j D wx) (fun i _ => k - (intOf i).toNat)
      case atStart => exact ⟨0, _, Nat.zero_le _, rfl, rel3_start hr _ rfl⟩
      case round =>
        revert wr
        intro wx hrel
        obtain ⟨j, D, hj, rfl, h3⟩ := hrel
        by_cases hjk : j < k
        · obtain ⟨f, hFf, hfst⟩ := hr.2.2.1 j hjk
          have hfj : f ≤ j := hfst.1
          have hRf : Rk f = Pl.dc κ f := hr.2.2.2.1 f (by omega) hfst.fresh
          have c1 : wx.cell? ⟨b, off + j, none⟩ = some (.string (σ j)) := (h3.2.2.2.2.2.1.cell (by exact hb)).trans (HC0.out j hjk)
          have c2 : wx.cell? ⟨w.heap.size, j, none⟩ = some (.int .i64 (f : Int)) := by rw [← hFf]; exact (h3.1 j hjk).1
          have c3 : wx.cell? ⟨R, f, none⟩ = some (.int .i64 (Pl.dc κ f : Int)) := by rw [← hRf]; exact (h3.2.1 f (by omega)).1
          have HR : Hid _ := h3
          have HF : Hid _ := hr
          have i1 : (j : Int) < (k : Int) := by omega
          have i2 : (f : Int) < (k : Int) := by omega
          have i3 : (0 : Int) ≤ (f : Int) := by omega
          clear h3 hFf hRf hr
          cases hh : Maps.has D (.string (κ j)) with
          | true =>
            have HH : Hid _ := hh
            clear hh
            go_wp2
            go_region_held3 (fun w' => w'.cell? ⟨b, off + j, none⟩ = some (.string (σ j)) ∧ w'.cell? ⟨w.heap.size, j, none⟩ = some (.int .i64 (f : Int)) ∧ w'.cell? ⟨R, f, none⟩ = some (.int .i64 (Pl.dc κ f : Int))) (go_keep)
              (first | (go_at_call 7; refine (slot_there (w4.heap.size + 1) w4.heap.size j D (σ j) _ (hσ j) (by exact HR.out.2.2.1) (by exact HR.out.2.2.2.1) (by rw [← HK.out]; exact HH.out) (Pl.dc κ f : Int) (by rw [← HK.out]; exact (HR.out.2.2.2.2.1.old HH.out).at_ j f (by omega) hfst)).mono ?_; rintro e w' ⟨rfl, rfl⟩))
            go_wp2
            go_roundw
            case rel => exact ⟨j + 1, D, by omega, by go_num, rel3_old HR.out HH.out 1⟩
            case measure => simp [intOf]; omega
          | false =>
            have hnew := HR.out.2.2.2.2.1.new hh
            have hfe : f = j := hfst.uniq ⟨Nat.le_refl _, rfl, hnew.1⟩
            subst hfe
            have hsz : (Maps.size D : Int) = (Pl.dc κ f : Int) := by rw [HR.out.2.2.2.2.1.size]
            have HH : Hid _ := hh
            have HN : Hid _ := hnew
            have HS : Hid _ := hsz
            clear hh hnew hsz
            have hne1 : b ≠ w4.heap.size := fun e => by have := HR.out.2.2.2.2.2.2; omega
            have hne2 : w.heap.size ≠ w4.heap.size := by have := HR.out.2.2.2.2.2.2; omega
            have hne3 : R ≠ w4.heap.size := by have := HR.out.2.2.2.2.2.2; omega
            go_wp2
            go_region_held3 (fun w' => w'.cell? ⟨b, off + f, none⟩ = some (.string (σ f)) ∧ w'.cell? ⟨w.heap.size, f, none⟩ = some (.int .i64 (f : Int)) ∧ w'.cell? ⟨R, f, none⟩ = some (.int .i64 (Pl.dc κ f : Int))) (go_keep)
              (first | (go_at_call 7; refine (slot_new (w4.heap.size + 1) w4.heap.size f D (σ f) _ (hσ f) (by exact HR.out.2.2.1) (by exact HR.out.2.2.2.1) (by omega) (by rw [← HK.out]; exact HH.out)).mono ?_; rintro e w' ⟨rfl, hown', hturn⟩; have g1 := (World.cell?_of_block (a := ⟨b, off + f, none⟩) (hturn.grown.block b (World.block_lt_of_cell? _ ⟨b, off + f, none⟩ (by simpa using c1)) (by simpa using hne1))).trans (by simpa using c1); have g2 := (World.cell?_of_block (a := ⟨w.heap.size, f, none⟩) (hturn.grown.block w.heap.size (World.block_lt_of_cell? _ ⟨w.heap.size, f, none⟩ (by simpa using c2)) (by simpa using hne2))).trans (by simpa using c2); have g3 := (World.cell?_of_block (a := ⟨R, f, none⟩) (hturn.grown.block R (World.block_lt_of_cell? _ ⟨R, f, none⟩ (by simpa using c3)) (by simpa using hne3))).trans (by simpa using c3); rw [HS.out]))
            rw [← HK.out] at hown'
            have R3 := rel3_new HR.out HH.out 1 0 hown' hturn
            clear hown' hturn g1 g2 g3
            go_wp2
            go_roundw
            case rel => exact ⟨f + 1, _, by omega, by go_num, R3⟩
            case measure => simp [intOf]; omega
        · have hjk' : j = k := by omega
          subst hjk'
          have hsz : Maps.size D = Pl.dc κ j := h3.2.2.2.2.1.size
          have hown := h3.2.2.2.1
          have c0 := h3.2.2.1
          have hbe := h3.2.2.2.2.2.1
          clear hr h3
          go_wp2_with (first
            | (at_len; refine wpList_len_own _ rfl _ 24 rfl 9 3 Yba.underlying24 (plainElem Yba.prog 3) w4.heap.size j D rfl hown ?_)
            | fail)
          go_ret
          exact ⟨rfl, hbe⟩

set_option maxRecDepth 100000 in
theorem script_long (a : Option Addr) (len cap : Nat) (w : World) (hl : 4096 < len) (hm : len ≤ maxLen) :
    Calls Yba.prog 4 #[.slice a len cap] w fun e w' => e = .returned (.bool true) ∧ Below w.heap.size w w' := by
  unfold maxLen at hm
  go_enter Yba.func4, Yba.ntmps4
  go_wp2
  go_ret
  exact ⟨rfl, Below.refl _ _⟩

set_option maxHeartbeats 400000 in
set_option maxRecDepth 100000 in
theorem script_none (a : Option Addr) (cap : Nat) (w : World) :
    Calls Yba.prog 4 #[.slice a 0 cap] w fun e w' => e = .returned (.bool true) ∧ Below w.heap.size w w' := by
  obtain ⟨i0, hi, hz0, hz1, hz2⟩ := info_parts Yba.info3
  have hmm := @run_makeMap Yba.prog
  go_enter Yba.func4, Yba.ntmps4
  go_wp2_with (first
    | (at_make; refine wpList_make_full _ rfl (.tmp 17) (.tmp 17) 23 rfl w.heap.size 3 i0 (.int .i64 0) 1 Yba.underlying23 hi hz0 hz1 .i64 .i64 _ _ 0 rfl rfl rfl rfl (by omega) (by unfold maxLen; omega) (by simp) ?_; intro w1 hown1 hgrow1)
    | (at_make; refine wpList_make_full _ rfl (.tmp 19) (.tmp 19) 23 rfl w.heap.size 3 i0 (.int .i64 0) 1 Yba.underlying23 hi hz0 hz1 .i64 .i64 _ _ 0 rfl rfl rfl rfl (by omega) (by unfold maxLen; omega) (by have := hgrow1.size; omega) ?_; intro w2 hown2 hgrow2)
    | fail)
  have hbel2 : Below w.heap.size w w2 := ((Below.refl _ _).grown hgrow1 (Nat.le_refl _) (fun k hk => by cases hk)).grown hgrow2 hgrow1.size (fun k hk => by cases hk)
  clear hown1 hown2 hgrow1 hgrow2
  refine wp_loop_rounds 1 ?_
  rw [rounds_succ]
  go_wp2
  refine wp_loop_rounds 1 ?_
  rw [rounds_succ]
  go_wp2_with (first
    | (at_len; refine wpList_len_own _ rfl _ 24 rfl 9 3 Yba.underlying24 (plainElem (H := Unit) Yba.prog 3) w2.heap.size 0 (.map []) rfl ((World.ownsMap_made _ _ _ _).alloc _) ?_)
    | fail)
  go_ret
  exact ⟨rfl, (hbel2.alloc hbel2.size _).alloc (by have := hbel2.size; simp; omega) _⟩

/-- WHAT THE WALK IS TOLD OF A SLICE OF STRINGS THAT CAME IN. -/
def Words (W : World) (a : Option Addr) (len : Nat) (σ : Nat → ByteArray) : Prop :=
  (∀ j, (σ j).size ≤ maxLen) ∧ len ≤ maxLen ∧ (len = 0 ∨ ∃ b off, a = some ⟨b, off, none⟩ ∧ b < W.heap.size ∧ ∀ j, j < len → W.cell? ⟨b, off + j, none⟩ = some (.string (σ j)))

theorem script_any (a : Option Addr) (len cap : Nat) (σ : Nat → ByteArray) (w : World) (h : Words w a len σ) :
    Calls Yba.prog 4 #[.slice a len cap] w fun e w' => e = .returned (.bool true) ∧ Below w.heap.size w w' := by
  obtain ⟨hσ, hm, rfl | ⟨b, off, rfl, hb, hc⟩⟩ := h
  · exact script_none a cap w
  · by_cases h0 : len = 0
    · subst h0; exact script_none _ cap w
    · by_cases h1 : 4096 < len
      · exact script_long _ len cap w h1 hm
      · exact script_walk b off len cap σ w (by omega) (by omega) hb hc hσ
end Go.Proofs.Ybulkdmay
