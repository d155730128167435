/-
  The byte order of texts; lists that rise; what is found in them. No Go in sight.
-/
import Derived.Lib.Bytealg
import Derived.Laws.Strings
namespace Go.Proofs.Qxb6616383a.Plain
open Go

def ltS (a b : ByteArray) : Bool := Op.bytesLess a.toList b.toList
theorem bl_irrefl : ∀ x : List UInt8, Op.bytesLess x x = false := by
  intro x
  induction x with
  | nil => rfl
  | cons a x ih => simp [Op.bytesLess, ih]
theorem bl_trans : ∀ x y z : List UInt8, Op.bytesLess x y = true → Op.bytesLess y z = true → Op.bytesLess x z = true := by
  intro x
  induction x with
  | nil =>
    intro y z h1 h2
    cases z with
    | nil => cases y <;> simp [Op.bytesLess] at h2
    | cons c z => rfl
  | cons a x ih =>
    intro y z h1 h2
    cases y with
    | nil => simp [Op.bytesLess] at h1
    | cons b y =>
      cases z with
      | nil => simp [Op.bytesLess] at h2
      | cons c z =>
        simp only [Op.bytesLess, Bool.or_eq_true, decide_eq_true_eq, Bool.and_eq_true, beq_iff_eq] at *
        rcases h1 with h1 | ⟨e1, h1⟩
        · rcases h2 with h2 | ⟨e2, h2⟩
          · exact Or.inl (UInt8.lt_trans h1 h2)
          · subst e2; exact Or.inl h1
        · subst e1
          rcases h2 with h2 | ⟨e2, h2⟩
          · exact Or.inl h2
          · subst e2; exact Or.inr ⟨rfl, ih y z h1 h2⟩
theorem bl_tri : ∀ x y : List UInt8, Op.bytesLess x y = true ∨ x = y ∨ Op.bytesLess y x = true := by
  intro x
  induction x with
  | nil => intro y; cases y with
    | nil => exact Or.inr (Or.inl rfl)
    | cons b y => exact Or.inl rfl
  | cons a x ih =>
    intro y
    cases y with
    | nil => exact Or.inr (Or.inr rfl)
    | cons b y =>
      simp only [Op.bytesLess, Bool.or_eq_true, decide_eq_true_eq, Bool.and_eq_true, beq_iff_eq]
      by_cases hab : a < b
      · exact Or.inl (Or.inl hab)
      · by_cases hba : b < a
        · exact Or.inr (Or.inr (Or.inl hba))
        · have e : a = b := by
            apply UInt8.toNat_inj.1
            rw [UInt8.lt_iff_toNat_lt] at hab hba
            omega
          subst e
          rcases ih y with h | h | h
          · exact Or.inl (Or.inr ⟨rfl, h⟩)
          · subst h; exact Or.inr (Or.inl rfl)
          · exact Or.inr (Or.inr (Or.inr ⟨rfl, h⟩))
theorem toList_inj {a b : ByteArray} (h : a.toList = b.toList) : a = b := by
  rw [ByteArray.toList_eq, ByteArray.toList_eq] at h
  apply ByteArray.ext
  exact Array.ext' h
theorem ltS_irrefl (a : ByteArray) : ltS a a = false := bl_irrefl _
theorem ltS_trans {a b c : ByteArray} (h : ltS a b = true) (h' : ltS b c = true) : ltS a c = true := bl_trans _ _ _ h h'
theorem ltS_tri (a b : ByteArray) : ltS a b = true ∨ a = b ∨ ltS b a = true := by
  rcases bl_tri a.toList b.toList with h | h | h
  · exact Or.inl h
  · exact Or.inr (Or.inl (toList_inj h))
  · exact Or.inr (Or.inr h)
theorem ltS_asymm {a b : ByteArray} (h : ltS a b = true) : ltS b a = false := by
  cases hb : ltS b a with
  | false => rfl
  | true => have := ltS_trans h hb; rw [ltS_irrefl] at this; cases this
/-- 'a is not behind b'. -/
def leS (a b : ByteArray) : Prop := ltS b a = false
theorem leS_refl (a : ByteArray) : leS a a := ltS_irrefl a
theorem leS_trans {a b c : ByteArray} (h : leS a b) (h' : leS b c) : leS a c := by
  unfold leS at *
  cases hc : ltS c a with
  | false => rfl
  | true =>
    rcases ltS_tri a b with h1 | h1 | h1
    · have := ltS_trans hc h1; rw [h'] at this; cases this
    · subst h1; rw [h'] at hc; cases hc
    · rw [h] at h1; cases h1
theorem leS_of_lt {a b : ByteArray} (h : ltS a b = true) : leS a b := ltS_asymm h
theorem lt_of_leS_ne {a b : ByteArray} (h : leS a b) (hne : a ≠ b) : ltS a b = true := by
  rcases ltS_tri a b with h1 | h1 | h1
  · exact h1
  · exact absurd h1 hne
  · unfold leS at h; rw [h] at h1; cases h1
theorem lt_of_lt_le {a b c : ByteArray} (h : ltS a b = true) (h' : leS b c) : ltS a c = true := by
  rcases ltS_tri a c with h1 | h1 | h1
  · exact h1
  · subst h1; unfold leS at h'; rw [h'] at h; cases h
  · have := ltS_trans h1 h; unfold leS at h'; rw [h'] at this; cases this
theorem lt_of_le_lt {a b c : ByteArray} (h : leS a b) (h' : ltS b c = true) : ltS a c = true := by
  rcases ltS_tri a c with h1 | h1 | h1
  · exact h1
  · subst h1; unfold leS at h; rw [h] at h'; cases h'
  · have := ltS_trans h' h1; unfold leS at h; rw [h] at this; cases this

/-- A table of n texts that rises. -/
def Rises (n : Nat) (f : Nat → ByteArray) : Prop := ∀ i j, i < j → j < n → ltS (f i) (f j) = true
theorem Rises.inj {n : Nat} {f : Nat → ByteArray} (h : Rises n f) {i j : Nat} (hi : i < n) (hj : j < n) (e : f i = f j) : i = j := by
  rcases Nat.lt_trichotomy i j with h1 | h1 | h1
  · have := h i j h1 hj; rw [e, ltS_irrefl] at this; cases this
  · exact h1
  · have := h j i h1 hi; rw [e, ltS_irrefl] at this; cases this
theorem Rises.lt_iff {n : Nat} {f : Nat → ByteArray} (h : Rises n f) {i j : Nat} (hi : i < n) (hj : j < n) : ltS (f i) (f j) = true ↔ i < j := by
  constructor
  · intro hl
    rcases Nat.lt_trichotomy i j with h1 | h1 | h1
    · exact h1
    · subst h1; rw [ltS_irrefl] at hl; cases hl
    · have := ltS_asymm (h j i h1 hi); rw [this] at hl; cases hl
  · exact fun h1 => h i j h1 hj
/-- Two tables that rise and hold the same texts are one. -/
theorem Rises.unique {n m : Nat} {f g : Nat → ByteArray} (hf : Rises n f) (hg : Rises m g) (hfg : ∀ i, i < n → ∃ j, j < m ∧ g j = f i) (hgf : ∀ j, j < m → ∃ i, i < n ∧ f i = g j) :
    n = m ∧ ∀ i, i < n → f i = g i := by
  have key : ∀ k, (∀ i, i < k → i < n → i < m ∧ f i = g i) ∧ (∀ i, i < k → i < m → i < n) := by
    intro k
    induction k with
    | zero => exact ⟨fun i h => by omega, fun i h => by omega⟩
    | succ k ih =>
      have hA : k < n → k < m ∧ f k = g k := by
        intro hk
        obtain ⟨j, hj, e⟩ := hfg k hk
        have hjk : j ≥ k := by
          rcases Nat.lt_or_ge j k with h1 | h1
          · have hjn := ih.2 j h1 hj
            have := (ih.1 j h1 hjn).2
            have := hf.inj hjn hk (by rw [this, e])
            omega
          · exact h1
        by_cases hjk' : j = k
        · subst hjk'; exact ⟨hj, e.symm⟩
        · obtain ⟨i, hi, e2⟩ := hgf k (by omega)
          have hik : i ≥ k := by
            rcases Nat.lt_or_ge i k with h1 | h1
            · obtain ⟨him, hie⟩ := ih.1 i h1 hi
              have := hg.inj him (by omega : k < m) (by rw [← hie, e2])
              omega
            · exact h1
          have h1 : ltS (g k) (g j) = true := hg k j (by omega) hj
          rw [e, ← e2] at h1
          have := (hf.lt_iff hi hk).1 h1
          omega
      have hB : k < m → k < n := by
        intro hk
        obtain ⟨i, hi, e⟩ := hgf k hk
        rcases Nat.lt_or_ge i k with h1 | h1
        · obtain ⟨him, hie⟩ := ih.1 i h1 hi
          have := hg.inj him hk (by rw [← hie, e])
          omega
        · omega
      refine ⟨fun i hi => ?_, fun i hi => ?_⟩
      · by_cases e : i = k
        · subst e; exact hA
        · exact ih.1 i (by omega)
      · by_cases e : i = k
        · subst e; exact hB
        · exact ih.2 i (by omega)
  have hnm : n = m := by
    rcases Nat.lt_trichotomy n m with h | h | h
    · have := (key (n + 1)).2 n (by omega) h; omega
    · exact h
    · have := ((key (m + 1)).1 m (by omega) h).1; omega
  exact ⟨hnm, fun i hi => ((key n).1 i hi hi).2⟩

/-- strings.Compare, by the order. -/
theorem compare_neg (a b : ByteArray) : Lib.compareBytes a.data.toList b.data.toList < 0 ↔ ltS a b = true := by
  unfold ltS
  rw [ByteArray.toList_eq, ByteArray.toList_eq]
  generalize a.data.toList = x
  generalize b.data.toList = y
  induction x generalizing y with
  | nil => cases y <;> simp [Lib.compareBytes, Op.bytesLess]
  | cons c x ih =>
    cases y with
    | nil => simp [Lib.compareBytes, Op.bytesLess]
    | cons e y =>
      simp only [Lib.compareBytes, Op.bytesLess, Bool.or_eq_true, decide_eq_true_eq, Bool.and_eq_true, beq_iff_eq]
      by_cases h1 : c < e
      · simp [h1]
      · by_cases h2 : e < c
        · have : c ≠ e := fun e' => by subst e'; exact h1 h2
          simp [h1, h2, this]
        · have e' : c = e := by
            apply UInt8.toNat_inj.1
            rw [UInt8.lt_iff_toNat_lt] at h1 h2
            omega
          subst e'
          simp [h1, ih y]
end Go.Proofs.Qxb6616383a.Plain
