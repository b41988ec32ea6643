/-
  Seat b5653a, project quillet: what the walk of 'LawS5653BWhole' leans on: the values' slice, the map behind 'slot', the looks into it. My own text.
-/
import Derived.Test.YbulkdmayOpen
namespace Go.Proofs.Ybulkdmay
open Go.ChangeShapes Go.WideShapes Go.ChangeAt Go.RowKit Go.Maps Go.WideMaps
set_option linter.unusedVariables false

/-- WHAT THE WALK IS TOLD OF THE SLICE OF VALUES: 'zzs5653bval(vals, k)' is ν k. -/
def Vals (W : World) (B : Nat) (a : Option Addr) (len : Nat) (ν : Nat → Int) : Prop :=
  len ≤ maxLen ∧ (∀ k, len ≤ k → ν k = k) ∧ (∀ k, k < 5000 → (Lit.int .i64 (ν k)).wf = true) ∧ (len = 0 ∨ ∃ b off, a = some ⟨b, off, none⟩ ∧ b < B ∧ ∀ j, j < len → W.cell? ⟨b, off + j, none⟩ = some (.int .i64 (ν j)))
theorem Vals.below {W W' : World} {B : Nat} {a : Option Addr} {len : Nat} {ν : Nat → Int} (h : Vals W B a len ν) (hb : Below B W W') : Vals W' B a len ν := by
  obtain ⟨h1, h2, h3, h4⟩ := h
  refine ⟨h1, h2, h3, ?_⟩
  rcases h4 with h4 | ⟨b, off, e, hlt, hc⟩
  · exact .inl h4
  · exact .inr ⟨b, off, e, hlt, fun j hj => (hb.cell (by exact hlt)).trans (hc j hj)⟩
theorem Vals.drewN {W : World} {B : Nat} {a : Option Addr} {len : Nat} {ν : Nat → Int} (h : Vals W B a len ν) (d : Nat) : Vals (W.drewN d) B a len ν := h.below (below_drewN' (Below.refl _ _) d)
theorem Vals.drew {W : World} {B : Nat} {a : Option Addr} {len : Nat} {ν : Nat → Int} (h : Vals W B a len ν) : Vals W.drew B a len ν := h.drewN 1
theorem val_any (a : Option Addr) (len cap B k : Nat) (ν : Nat → Int) (w : World) (h : Vals w B a len ν) :
    Calls Yba.prog 6 #[.slice a len cap, .int .i64 k] w fun e w' => e = .returned (.int .i64 (ν k)) ∧ w' = w := by
  obtain ⟨h1, h2, h3, h4⟩ := h
  by_cases hk : k < len
  · rcases h4 with rfl | ⟨b, off, rfl, _, hc⟩
    · omega
    · exact val_in none b off len cap k (ν k) w h1 hk (hc k hk)
  · rw [h2 k (by omega)]
    exact val_out a len cap k w (by omega)

/-- What holds behind 'slot(name)': the number got, whether the name was there, and what the map then holds. -/
structure After (κ : Nat → List UInt8) (ν : Nat → Int) (n : Nat) (nm : List UInt8) (fnd : Bool) (got : Int) (D : DataW Unit) : Prop where
  yes : fnd = true → ∃ L, Pl.IsLast κ n nm L ∧ got = ν L
  no : fnd = false → (∀ j, j < n → κ j ≠ nm) ∧ got = (Pl.dc κ n : Int)
  size : Maps.size D = Pl.dc κ n + (if fnd then 0 else 1)
  at_ : ∀ k L, Pl.IsLast κ n k L → Maps.has D (Pl.key k) = true ∧ D.atKey (Pl.key k) (Pl.num 0) = Pl.num (ν L)
  name : Maps.has D (Pl.key nm) = true ∧ D.atKey (Pl.key nm) (Pl.num 0) = Pl.num got

/-- There is a last place of a key that is there. -/
theorem last_of (κ : Nat → List UInt8) (k : List UInt8) : ∀ n, (∃ j, j < n ∧ κ j = k) → ∃ L, Pl.IsLast κ n k L
  | 0, ⟨j, hj, _⟩ => absurd hj (Nat.not_lt_zero _)
  | n + 1, ⟨j, hj, e⟩ => by
    by_cases hn : κ n = k
    · exact ⟨n, Nat.lt_succ_self _, hn, fun m h1 h2 => by omega⟩
    · obtain ⟨L, h1, h2, h3⟩ := last_of κ k n ⟨j, by rcases Nat.lt_or_ge j n with h | h; exact h; exact absurd (by rw [← e]; congr 1; omega) hn, e⟩
      exact ⟨L, by omega, h2, fun m h4 h5 => by rcases Nat.lt_or_ge m n with h | h; exact h3 m h4 h; (have : m = n := by omega); subst this; exact hn⟩
theorem last_uniq {κ : Nat → List UInt8} {n : Nat} {k : List UInt8} {L L' : Nat} (h : Pl.IsLast κ n k L) (h' : Pl.IsLast κ n k L') : L = L' := by
  rcases Nat.lt_trichotomy L L' with hl | he | hl
  · exact absurd h'.2.1 (h.2.2 L' hl h'.1)
  · exact he
  · exact absurd h.2.1 (h'.2.2 L hl h.1)

theorem after_there {D : DataW Unit} {κ : Nat → List UInt8} {ν : Nat → Int} {n : Nat} {nm : List UInt8} (h : Pl.Filled D κ ν n) {L : Nat} (hL : Pl.IsLast κ n nm L) : After κ ν n nm true (ν L) D :=
  ⟨fun _ => ⟨L, hL, rfl⟩, fun c => (by cases c), by simpa using h.size, fun k l hl => ⟨(h.has k).2 ⟨l, hl.1, hl.2.1⟩, h.at_ k l hl⟩, (h.has nm).2 ⟨L, hL.1, hL.2.1⟩, h.at_ nm L hL⟩
theorem after_new {D : DataW Unit} {κ : Nat → List UInt8} {ν : Nat → Int} {n : Nat} {nm : List UInt8} (h : Pl.Filled D κ ν n) (hn : Maps.has D (Pl.key nm) = false) : After κ ν n nm false (Maps.size D : Int) (D.put (Pl.key nm) (Pl.num (Maps.size D))) := by
  have hne : ∀ j, j < n → κ j ≠ nm := fun j hj e => by
    have := (h.has nm).2 ⟨j, hj, e⟩
    rw [hn] at this
    cases this
  refine ⟨fun c => (by cases c), fun _ => ⟨hne, by rw [h.size]⟩, ?_, fun k l hl => ?_, has_put_same h.tidy.isMap (Pl.isKey _) _, atKey_put_same h.tidy.isMap (Pl.isKey _) _ _⟩
  · rw [size_put h.tidy, hn, h.size]; rfl
  · have hk : k ≠ nm := fun e => hne l hl.1 (hl.2.1.trans e)
    rw [has_put_other (Pl.key_ne hk), atKey_put_other (Pl.key_ne hk)]
    exact ⟨(h.has k).2 ⟨l, hl.1, hl.2.1⟩, h.at_ k l hl⟩

/-- 'slot(name)' on a map that was filled from the keys. -/
theorem slot_gen (sb bm n : Nat) (D : DataW Unit) (κ : Nat → List UInt8) (ν : Nat → Int) (s : ByteArray) (w : World) (hs : s.size ≤ maxLen) (c0 : w.cell? ⟨sb, 23, none⟩ = some (.map (some bm)))
    (hown : w.ownsMap Yba.prog 9 (plainElem Yba.prog 3) bm n D) (hn : n < 1000000) (hF : Pl.Filled D κ ν n) :
    Calls Yba.prog 7 #[.pointer (some ⟨sb, 0, none⟩), .string s] w fun e w' => ∃ (got : Int) (fnd : Bool) (D' : DataW Unit), e = .returned (.int .i64 got) ∧ After κ ν n s.data.toList fnd got D' ∧ w'.ownsMap Yba.prog 9 (plainElem Yba.prog 3) bm (n + 1) D' ∧ w.mapTurned w' bm := by
  cases hh : Maps.has D (Pl.key s.data.toList) with
  | true =>
    obtain ⟨L, hL⟩ := last_of κ s.data.toList n ((hF.has _).1 hh)
    refine (slot_there sb bm n D s w hs c0 hown hh (ν L) (hF.at_ _ L hL)).mono fun e w' ⟨he, hw⟩ => ?_
    subst hw
    exact ⟨ν L, true, D, he, after_there hF hL, hown.mono (Nat.le_succ _), hown.turned_refl⟩
  | false =>
    refine (slot_new sb bm n D s w hs c0 hown hn hh).mono fun e w' ⟨he, ho, ht⟩ => ?_
    exact ⟨(Maps.size D : Int), false, D.put (Pl.key s.data.toList) (Pl.num (Maps.size D)), he, after_new hF hh, ho, ht⟩

/-- The law's own search ends as 'slot' found. -/
theorem end4 {κ : Nat → List UInt8} {ν : Nat → Int} {n : Nat} {nm : List UInt8} {fnd F : Bool} {got X : Int} {D : DataW Unit} (h : After κ ν n nm fnd got D)
    (h1 : F = true → ∃ l, Pl.IsLast κ n nm l ∧ X = ν l) (h2 : F = false → ∀ j, j < n → κ j ≠ nm) : F = fnd ∧ (fnd = true → X = got) := by
  cases fnd with
  | true =>
    obtain ⟨L, hL, e⟩ := h.yes rfl
    cases F with
    | true =>
      obtain ⟨l, hl, e1⟩ := h1 rfl
      exact ⟨rfl, fun _ => by rw [e1, e, last_uniq hl hL]⟩
    | false => exact absurd hL.2.1 (h2 rfl L hL.1)
  | false =>
    obtain ⟨hn, _⟩ := h.no rfl
    cases F with
    | true =>
      obtain ⟨l, hl, _⟩ := h1 rfl
      exact absurd hl.2.1 (hn l hl.1)
    | false => exact ⟨rfl, fun c => by cases c⟩
/-- The search, a round on: the i-th key is the name. -/
theorem step4_hit {κ : Nat → List UInt8} {ν : Nat → Int} {q : Nat} {nm : List UInt8} (e : κ q = nm) : (true = true → ∃ l, Pl.IsLast κ (q + 1) nm l ∧ ν q = ν l) ∧ (true = false → ∀ j, j < q + 1 → κ j ≠ nm) :=
  ⟨fun _ => ⟨q, ⟨Nat.lt_succ_self _, e, fun m h1 h2 => by omega⟩, rfl⟩, fun c => by cases c⟩
theorem step4_miss {κ : Nat → List UInt8} {ν : Nat → Int} {q : Nat} {nm : List UInt8} {F : Bool} {X : Int} (e : κ q ≠ nm) (h : (F = true → ∃ l, Pl.IsLast κ q nm l ∧ X = ν l) ∧ (F = false → ∀ j, j < q → κ j ≠ nm)) :
    (F = true → ∃ l, Pl.IsLast κ (q + 1) nm l ∧ X = ν l) ∧ (F = false → ∀ j, j < q + 1 → κ j ≠ nm) := by
  refine ⟨fun hF => ?_, fun hF j hj => ?_⟩
  · obtain ⟨l, ⟨h1, h2, h3⟩, h4⟩ := h.1 hF
    exact ⟨l, ⟨by omega, h2, fun m h5 h6 => by rcases Nat.lt_or_ge m q with h7 | h7; exact h3 m h5 h7; (have : m = q := by omega); subst this; exact e⟩, h4⟩
  · rcases Nat.lt_or_ge j q with h7 | h7
    · exact h.2 hF j h7
    · have : j = q := by omega
      subst this
      exact e

/-- A look into the map behind draws: the number that is there. -/
theorem look_at {w : World} {bm n : Nat} {D : DataW Unit} (hown : w.ownsMap Yba.prog 9 (plainElem Yba.prog 3) bm n D) {s : ByteArray} (hs : s.size ≤ maxLen) {c : Int} (hh : Maps.has D (.string s.data.toList) = true) (hat : D.atKey (.string s.data.toList) (.lit (.int .i64 0)) = .lit (.int .i64 c)) (d : Nat) :
    (Instr.lookup 24 (.map (some bm)) (.string s) true).run Yba.prog (w.drewN d) = .ok (.tuple #[.int .i64 c, .bool true]) (w.drewN d) := by
  have h' : (w.drewN d).ownsMap Yba.prog 9 (plainElem Yba.prog 3) bm n D := hown
  obtain ⟨v, ps, hrun, hv⟩ := h'.look_ok law9 Yba.underlying24 (zero3 _) (zd := .lit (.int .i64 0)) (zp := []) (plainElem_int Yba.underlying3 (by decide)) (keyOf_string_mk Yba.underlying9 hs)
  rw [hat] at hv
  obtain ⟨a, rfl, ha, _⟩ := plainElem_int_inv Yba.underlying3 hv
  have e : c = a := by
    simp only [Prod.mk.injEq, DataW.lit.injEq, Lit.int.injEq, true_and] at ha
    exact ha.1
  rw [hrun, hh, e]

/-- What stands in memory behind 'slot': the parser's struct, the map. -/
structure Stand (w : World) (S : Nat) (n : Nat) (D : DataW Unit) (wx : World) : Prop where
  c23 : wx.cell? ⟨S, 23, none⟩ = some (.map (some w.heap.size))
  c0 : wx.cell? ⟨S, 0, none⟩ = some (.slice none 0 0)
  c24 : wx.cell? ⟨S, 24, none⟩ = some (.slice none 0 0)
  c27 : wx.cell? ⟨S, 27, none⟩ = some (.slice none 0 0)
  c28 : wx.cell? ⟨S, 28, none⟩ = some (.slice none 0 0)
  c29 : wx.cell? ⟨S, 29, none⟩ = some (.int .i64 0)
  own : wx.ownsMap Yba.prog 9 (plainElem Yba.prog 3) w.heap.size n D
  below : Below w.heap.size w wx
theorem stand_of {w wr wx : World} {n m : Nat} {D D' : DataW Unit} {cs : Array Value} (hb : Below w.heap.size w wr) (hown : wr.ownsMap Yba.prog 9 (plainElem Yba.prog 3) w.heap.size n D)
    (h0 : cs[0]? = some (.slice none 0 0)) (h23 : cs[23]? = some (.map (some w.heap.size))) (h24 : cs[24]? = some (.slice none 0 0)) (h27 : cs[27]? = some (.slice none 0 0)) (h28 : cs[28]? = some (.slice none 0 0)) (h29 : cs[29]? = some (.int .i64 0))
    (hown' : wx.ownsMap Yba.prog 9 (plainElem Yba.prog 3) w.heap.size m D') (ht : (wr.alloc (.cells cs 44)).mapTurned wx w.heap.size) : Stand w wr.heap.size m D' wx := by
  have hlt := hown.lt
  have hg := ht.grown
  have hcell : ∀ j, wx.cell? ⟨wr.heap.size, j, none⟩ = cs[j]? := fun j => by
    rw [World.cell?_of_block (a := ⟨wr.heap.size, j, none⟩) (hg.block wr.heap.size (by simp) (by simp; omega))]
    exact World.cell?_alloc_at _ _ _ _ rfl
  exact ⟨by rw [hcell, h23], by rw [hcell, h0], by rw [hcell, h24], by rw [hcell, h27], by rw [hcell, h28], by rw [hcell, h29], hown', (hb.alloc (by omega) _).grown hg (by simp; omega) (fun k hk => by cases hk; exact Nat.le_refl _)⟩
/-- The look at a key: the value of its last place. -/
theorem look_last {w w6 : World} {S n m : Nat} {κ : Nat → List UInt8} {ν : Nat → Int} {nm : List UInt8} {fnd : Bool} {got : Int} {D : DataW Unit} {s : ByteArray} {k : List UInt8} {L : Nat} (hA : After κ ν n nm fnd got D) (hS : Stand w S m D w6) (hs : s.size ≤ maxLen) (hk : k = s.data.toList) (hL : Pl.IsLast κ n k L) (d : Nat) :
    (Instr.lookup 24 (.map (some w.heap.size)) (.string s) true).run Yba.prog (w6.drewN d) = .ok (.tuple #[.int .i64 (ν L), .bool true]) (w6.drewN d) := by
  subst hk
  exact look_at hS.own hs (hA.at_ _ L hL).1 (hA.at_ _ L hL).2 d
/-- The look at the name. -/
theorem look_name {w w6 : World} {S n m : Nat} {κ : Nat → List UInt8} {ν : Nat → Int} {s : ByteArray} {fnd : Bool} {got : Int} {D : DataW Unit} (hA : After κ ν n s.data.toList fnd got D) (hS : Stand w S m D w6) (hs : s.size ≤ maxLen) (d : Nat) :
    (Instr.lookup 24 (.map (some w.heap.size)) (.string s) true).run Yba.prog (w6.drewN d) = .ok (.tuple #[.int .i64 got, .bool true]) (w6.drewN d) :=
  look_at hS.own hs hA.name.1 hA.name.2 d
theorem nil27 (w : World) : (binOp .eql 27 (.slice none 0 0) (.slice none 0 0)).run Yba.prog w = .ok (.bool true) w := by kernel_rfl
theorem nil38 (w : World) : (binOp .eql 38 (.slice none 0 0) (.slice none 0 0)).run Yba.prog w = .ok (.bool true) w := by kernel_rfl
theorem nil41 (w : World) : (binOp .eql 41 (.slice none 0 0) (.slice none 0 0)).run Yba.prog w = .ok (.bool true) w := by kernel_rfl
theorem nil42 (w : World) : (binOp .eql 42 (.slice none 0 0) (.slice none 0 0)).run Yba.prog w = .ok (.bool true) w := by kernel_rfl
end Go.Proofs.Ybulkdmay
