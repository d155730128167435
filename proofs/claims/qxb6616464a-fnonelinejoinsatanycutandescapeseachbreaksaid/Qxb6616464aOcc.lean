/-
  The plain mathematics of counting the places where a text stands. No Go in sight.
-/
import Derived.Test.Qxb6616464aEsc
namespace Go.Proofs.Qxb6616464a.Esc
open Go

/-- The number of places where p stands in a text. -/
def occ (p : List UInt8) : List UInt8 → Nat
  | [] => 0
  | c :: l => (if p.isPrefixOf (c :: l) = true then 1 else 0) + occ p l

theorem occ_short (p : List UInt8) : ∀ l : List UInt8, l.length < p.length → occ p l = 0 := by
  intro l
  induction l with
  | nil => intro _; rfl
  | cons c l ih =>
    intro h
    rw [occ, ih (by simp at h; omega)]
    have : ¬ p.isPrefixOf (c :: l) = true := by
      intro hp
      have := (List.isPrefixOf_iff_prefix.1 hp).length_le
      omega
    rw [if_neg this]
theorem occ_le (p : List UInt8) : ∀ l : List UInt8, occ p l ≤ l.length := by
  intro l
  induction l with
  | nil => simp [occ]
  | cons c l ih => rw [occ]; simp; split <;> omega
theorem occ_drop (p l : List UInt8) (k : Nat) (h : k < l.length) : occ p (l.drop k) = (if p.isPrefixOf (l.drop k) = true then 1 else 0) + occ p (l.drop (k + 1)) := by
  rw [List.drop_eq_getElem_cons h, occ]
theorem prefix_take (p l : List UInt8) (k : Nat) : p.isPrefixOf (l.drop k) = ((l.drop k).take p.length == p) := by
  rw [Bool.eq_iff_iff, List.isPrefixOf_iff_prefix, beq_iff_eq, List.prefix_iff_eq_take]
  exact eq_comm

/-- A text without backslash, tab and newline stands at the head of the escape where it stood at the head. -/
theorem prefix_esc : ∀ (q l : List UInt8), (∀ x ∈ q, x ≠ 92 ∧ x ≠ 9 ∧ x ≠ 10) → q.isPrefixOf (esc l) = q.isPrefixOf l := by
  intro q
  induction q with
  | nil => intro l _; cases l <;> cases esc _ <;> rfl
  | cons x q ih =>
    intro l h
    obtain ⟨h1, h2, h3⟩ := h x (by simp)
    have b1 : (x == 92) = false := by simp [h1]
    have b2 : (x == 9) = false := by simp [h2]
    have b3 : (x == 10) = false := by simp [h3]
    have ih' := fun l => ih l (fun y hy => h y (by simp [hy]))
    cases l with
    | nil => rfl
    | cons c l =>
      rw [esc_cons]
      unfold escC
      by_cases c9 : c = 9
      · subst c9
        simp [e9, List.isPrefixOf, b1, b2]
      · by_cases c10 : c = 10
        · subst c10
          simp [e10, List.isPrefixOf, b1, b3]
        · simp [c9, c10, List.isPrefixOf, ih' l]

def t9 : List UInt8 := [117, 48, 48, 48, 57]
def t10 : List UInt8 := [117, 48, 48, 48, 97]
theorem plain_t9 : ∀ x ∈ t9, x ≠ 92 ∧ x ≠ 9 ∧ x ≠ 10 := by decide
theorem plain_t10 : ∀ x ∈ t10, x ≠ 92 ∧ x ≠ 9 ∧ x ≠ 10 := by decide

theorem occ9 : ∀ l : List UInt8, occ e9 (esc l) = occ e9 l + l.count 9 := by
  intro l
  induction l with
  | nil => rfl
  | cons c l ih =>
    rw [esc_cons]
    unfold escC
    by_cases c9 : c = 9
    · subst c9
      simp [e9, occ, List.isPrefixOf] at *
      omega
    · by_cases c10 : c = 10
      · subst c10
        simp [e9, e10, occ, List.isPrefixOf] at *
        omega
      · rw [if_neg c9, if_neg c10]
        have hp : e9.isPrefixOf (c :: esc l) = e9.isPrefixOf (c :: l) := by
          show (92 == c && t9.isPrefixOf (esc l)) = (92 == c && t9.isPrefixOf l)
          rw [prefix_esc t9 l plain_t9]
        have hc : (c :: l).count 9 = l.count 9 := by rw [List.count_cons]; simp [c9]
        rw [List.singleton_append, occ, occ, hp, ih, hc]
        omega
theorem occ10 : ∀ l : List UInt8, occ e10 (esc l) = occ e10 l + l.count 10 := by
  intro l
  induction l with
  | nil => rfl
  | cons c l ih =>
    rw [esc_cons]
    unfold escC
    by_cases c9 : c = 9
    · subst c9
      simp [e9, e10, occ, List.isPrefixOf] at *
      omega
    · by_cases c10 : c = 10
      · subst c10
        simp [e10, occ, List.isPrefixOf] at *
        omega
      · rw [if_neg c9, if_neg c10]
        have hp : e10.isPrefixOf (c :: esc l) = e10.isPrefixOf (c :: l) := by
          show (92 == c && t10.isPrefixOf (esc l)) = (92 == c && t10.isPrefixOf l)
          rw [prefix_esc t10 l plain_t10]
        have hc : (c :: l).count 10 = l.count 10 := by rw [List.count_cons]; simp [c10]
        rw [List.singleton_append, occ, occ, hp, ih, hc]
        omega
end Go.Proofs.Qxb6616464a.Esc
