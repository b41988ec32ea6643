/-
  Seat b5653a, project quillet: THE PLAIN LAWS: no Go in sight: the first place of a key, the number of different keys, what a map of ranks and a map of values hold. My own text.
-/
import Derived.Maps.Views
namespace Go.Proofs.Ybulkdmay.Pl
open Go.Maps

/-- No earlier key is the i-th. -/
def fresh (κ : Nat → List UInt8) (i : Nat) : Prop := ∀ j, j < i → κ j ≠ κ i
/-- How many different keys there are among the first i. -/
def dc (κ : Nat → List UInt8) : Nat → Nat
  | 0 => 0
  | i + 1 => if ∀ j, j < i → κ j ≠ κ i then dc κ i + 1 else dc κ i
theorem dc_fresh {κ : Nat → List UInt8} {i : Nat} (h : fresh κ i) : dc κ (i + 1) = dc κ i + 1 := by
  conv => lhs; unfold dc
  exact if_pos h
theorem dc_old {κ : Nat → List UInt8} {i : Nat} (h : ¬ fresh κ i) : dc κ (i + 1) = dc κ i := by
  conv => lhs; unfold dc
  exact if_neg h
theorem dc_le (κ : Nat → List UInt8) : ∀ i, dc κ i ≤ i
  | 0 => Nat.le_refl _
  | i + 1 => by
    have := dc_le κ i
    unfold dc
    split <;> omega
/-- f is the first place of the i-th key. -/
def IsFst (κ : Nat → List UInt8) (i f : Nat) : Prop := f ≤ i ∧ κ f = κ i ∧ ∀ j, j < f → κ j ≠ κ i
theorem IsFst.self {κ : Nat → List UInt8} {i f : Nat} (h : IsFst κ i f) : IsFst κ f f := ⟨Nat.le_refl _, rfl, fun j hj e => h.2.2 j hj (e.trans h.2.1)⟩
theorem IsFst.fresh {κ : Nat → List UInt8} {i f : Nat} (h : IsFst κ i f) : fresh κ f := fun j hj e => h.2.2 j hj (e.trans h.2.1)
theorem IsFst.uniq {κ : Nat → List UInt8} {i f g : Nat} (h : IsFst κ i f) (h' : IsFst κ i g) : f = g := by
  rcases Nat.lt_trichotomy f g with hl | he | hl
  · exact absurd h.2.1 (h'.2.2 f hl)
  · exact he
  · exact absurd h'.2.1 (h.2.2 g hl)

abbrev key (k : List UInt8) : Lit := .string k
abbrev num (n : Int) : DataW Unit := .lit (.int .i64 n)
theorem key_ne {a b : List UInt8} (h : a ≠ b) : key a ≠ key b := fun e => h (by cases e; rfl)
theorem isKey (k : List UInt8) : WideAt.IsKeyLit (key k) := by simp [WideAt.IsKeyLit]

/-- The map holds just the first i keys, each with the rank of its first place. -/
structure Ranked (D : DataW Unit) (κ : Nat → List UInt8) (i : Nat) : Prop where
  has : ∀ k, has D (key k) = true ↔ ∃ j, j < i ∧ κ j = k
  at_ : ∀ j f, j < i → IsFst κ j f → D.atKey (key (κ j)) (num 0) = num (dc κ f)
  size : size D = dc κ i
  tidy : Tidy D
theorem ranked_start (κ : Nat → List UInt8) : Ranked (.map []) κ 0 :=
  ⟨fun k => ⟨fun h => by simp [Maps.has] at h, fun ⟨j, hj, _⟩ => absurd hj (Nat.not_lt_zero _)⟩, fun j f hj _ => absurd hj (Nat.not_lt_zero _), rfl, tidy_empty⟩
theorem Ranked.old {D : DataW Unit} {κ : Nat → List UInt8} {i : Nat} (h : Ranked D κ i) (ho : Maps.has D (key (κ i)) = true) : Ranked D κ (i + 1) := by
  obtain ⟨j0, hj0, e0⟩ := (h.has _).1 ho
  refine ⟨fun k => ⟨fun hk => ?_, fun ⟨j, hj, e⟩ => ?_⟩, fun j f hj hf => ?_, ?_, h.tidy⟩
  · obtain ⟨j, hj, e⟩ := (h.has k).1 hk
    exact ⟨j, by omega, e⟩
  · by_cases hi : j = i
    · subst hi; rw [← e]; exact ho
    · exact (h.has k).2 ⟨j, by omega, e⟩
  · by_cases hi : j = i
    · subst hi
      have hf0 : f ≤ j0 := by
        rcases Nat.lt_or_ge j0 f with hl | hl
        · exact absurd e0 (hf.2.2 j0 hl)
        · exact hl
      rw [← hf.2.1]
      exact h.at_ f f (by omega) hf.self
    · exact h.at_ j f (by omega) hf
  · rw [dc_old (fun hf => hf j0 hj0 e0)]; exact h.size
theorem Ranked.new {D : DataW Unit} {κ : Nat → List UInt8} {i : Nat} (h : Ranked D κ i) (hn : Maps.has D (key (κ i)) = false) : fresh κ i ∧ Ranked (D.put (key (κ i)) (num (Maps.size D))) κ (i + 1) := by
  have hfr : fresh κ i := fun j hj e => by
    have := (h.has (κ i)).2 ⟨j, hj, e⟩
    rw [hn] at this
    cases this
  refine ⟨hfr, fun k => ⟨fun hk => ?_, fun ⟨j, hj, e⟩ => ?_⟩, fun j f hj hf => ?_, ?_, h.tidy.put (isKey _) _⟩
  · by_cases e : k = κ i
    · exact ⟨i, by omega, e.symm⟩
    · rw [has_put_other (key_ne e)] at hk
      obtain ⟨j, hj, e⟩ := (h.has k).1 hk
      exact ⟨j, by omega, e⟩
  · by_cases hi : k = κ i
    · rw [hi]; exact has_put_same h.tidy.isMap (isKey _) _
    · rw [has_put_other (key_ne hi)]
      exact (h.has k).2 ⟨j, by rcases Nat.lt_or_ge j i with hl | hl; exact hl; exact absurd (by rw [← e]; congr 1; omega) hi, e⟩
  · by_cases hi : j = i
    · subst hi
      have : f = j := by
        rcases Nat.lt_or_ge f j with hl | hl
        · exact absurd hf.2.1 (hfr f hl)
        · have := hf.1; omega
      rw [atKey_put_same h.tidy.isMap (isKey _), this, h.size]
    · rw [atKey_put_other (key_ne (hfr j (by omega)))]
      exact h.at_ j f (by omega) hf
  · rw [size_put h.tidy, hn, dc_fresh hfr, h.size]; rfl

/-- l is the last place, among the first n, of the j-th key. -/
def IsLast (κ : Nat → List UInt8) (n : Nat) (k : List UInt8) (l : Nat) : Prop := l < n ∧ κ l = k ∧ ∀ m, l < m → m < n → κ m ≠ k
/-- The map holds just the first i keys, each with the value of its last place. -/
structure Filled (D : DataW Unit) (κ : Nat → List UInt8) (ν : Nat → Int) (i : Nat) : Prop where
  has : ∀ k, has D (key k) = true ↔ ∃ j, j < i ∧ κ j = k
  at_ : ∀ k l, IsLast κ i k l → D.atKey (key k) (num 0) = num (ν l)
  size : size D = dc κ i
  tidy : Tidy D
theorem filled_start (κ : Nat → List UInt8) (ν : Nat → Int) : Filled (.map []) κ ν 0 :=
  ⟨fun k => ⟨fun h => by simp [Maps.has] at h, fun ⟨j, hj, _⟩ => absurd hj (Nat.not_lt_zero _)⟩, fun k l hl => absurd hl.1 (Nat.not_lt_zero _), rfl, tidy_empty⟩
theorem Filled.step {D : DataW Unit} {κ : Nat → List UInt8} {ν : Nat → Int} {i : Nat} (h : Filled D κ ν i) : Filled (D.put (key (κ i)) (num (ν i))) κ ν (i + 1) := by
  refine ⟨fun k => ⟨fun hk => ?_, fun ⟨j, hj, e⟩ => ?_⟩, fun k l hl => ?_, ?_, h.tidy.put (isKey _) _⟩
  · by_cases e : k = κ i
    · exact ⟨i, by omega, e.symm⟩
    · rw [has_put_other (key_ne e)] at hk
      obtain ⟨j, hj, e⟩ := (h.has k).1 hk
      exact ⟨j, by omega, e⟩
  · by_cases hi : k = κ i
    · rw [hi]; exact has_put_same h.tidy.isMap (isKey _) _
    · rw [has_put_other (key_ne hi)]
      exact (h.has k).2 ⟨j, by rcases Nat.lt_or_ge j i with hl | hl; exact hl; exact absurd (by rw [← e]; congr 1; omega) hi, e⟩
  · by_cases hi : k = κ i
    · have : l = i := by
        rcases Nat.lt_or_ge l i with hlt | hge
        · exact absurd hi.symm (hl.2.2 i hlt (by omega))
        · have := hl.1; omega
      rw [hi, this]
      exact atKey_put_same h.tidy.isMap (isKey _) _ _
    · rw [atKey_put_other (key_ne hi)]
      have hli : l ≠ i := fun e => hi (by rw [← hl.2.1, e])
      exact h.at_ k l ⟨by have := hl.1; omega, hl.2.1, fun m h1 h2 => hl.2.2 m h1 (by omega)⟩
  · rw [size_put h.tidy]
    by_cases hf : fresh κ i
    · rw [dc_fresh hf]
      have : Maps.has D (key (κ i)) = false := by
        cases hh : Maps.has D (key (κ i)) with
        | false => rfl
        | true => obtain ⟨j, hj, e⟩ := (h.has _).1 hh; exact absurd e (hf j hj)
      rw [this, h.size]; rfl
    · rw [dc_old hf]
      have : Maps.has D (key (κ i)) = true := by
        cases hh : Maps.has D (key (κ i)) with
        | true => rfl
        | false =>
          refine absurd (fun j hj e => ?_) hf
          have := (h.has (κ i)).2 ⟨j, hj, e⟩
          rw [hh] at this
          cases this
      rw [this, h.size]; rfl
end Go.Proofs.Ybulkdmay.Pl
