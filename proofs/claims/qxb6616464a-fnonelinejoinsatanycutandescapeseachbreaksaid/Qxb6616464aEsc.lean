/-
  The plain mathematics of the escape of tabs and newlines. No Go in sight.
-/
import Derived.Lib.Bytealg
namespace Go.Proofs.Qxb6616464a.Esc
open Go

def e9 : List UInt8 := [92, 117, 48, 48, 48, 57]
def e10 : List UInt8 := [92, 117, 48, 48, 48, 97]
def escC (c : UInt8) : List UInt8 := if c = 9 then e9 else if c = 10 then e10 else [c]
def esc (l : List UInt8) : List UInt8 := l.flatMap escC
/-- How many tabs and newlines. -/
def brk (l : List UInt8) : Nat := l.count 9 + l.count 10

theorem esc_append (a b : List UInt8) : esc (a ++ b) = esc a ++ esc b := by simp [esc]
theorem esc_nil : esc [] = [] := rfl
theorem esc_cons (c : UInt8) (l : List UInt8) : esc (c :: l) = escC c ++ esc l := by simp [esc]
theorem brk_append (a b : List UInt8) : brk (a ++ b) = brk a + brk b := by simp [brk, List.count_append]; omega
theorem brk_one (c : UInt8) : brk [c] = if c = 9 ∨ c = 10 then 1 else 0 := by
  unfold brk
  by_cases h9 : c = 9
  · subst h9; rfl
  · by_cases h10 : c = 10
    · subst h10; rfl
    · have a : ([c] : List UInt8).count 9 = 0 := List.count_eq_zero.2 (by simp; exact fun h => h9 h.symm)
      have b : ([c] : List UInt8).count 10 = 0 := List.count_eq_zero.2 (by simp; exact fun h => h10 h.symm)
      simp [a, b, h9, h10]
theorem escC_length (c : UInt8) : (escC c).length = 1 + 5 * brk [c] := by
  rw [brk_one]
  unfold escC
  by_cases h9 : c = 9
  · simp [h9, e9]
  · by_cases h10 : c = 10
    · simp [h10, e10]
    · simp [h9, h10]
theorem esc_length : ∀ l : List UInt8, (esc l).length = l.length + 5 * brk l := by
  intro l
  induction l with
  | nil => rfl
  | cons c l ih =>
    have : c :: l = [c] ++ l := rfl
    rw [esc_cons, List.length_append, ih, escC_length, this, brk_append]
    simp; omega
theorem brk_le (l : List UInt8) : brk l ≤ l.length := by
  induction l with
  | nil => simp [brk]
  | cons c l ih =>
    have : c :: l = [c] ++ l := rfl
    rw [this, brk_append, brk_one]
    simp; split <;> omega
theorem esc_same : ∀ l : List UInt8, brk l = 0 → esc l = l := by
  intro l
  induction l with
  | nil => intro _; rfl
  | cons c l ih =>
    intro h
    have e : c :: l = [c] ++ l := rfl
    rw [e, brk_append, brk_one] at h
    have h1 : ¬ (c = 9 ∨ c = 10) := fun hc => by rw [if_pos hc] at h; omega
    rw [if_neg h1] at h
    rw [esc_cons, ih (by omega)]
    have h9 : ¬ c = 9 := fun h => h1 (Or.inl h)
    have h10 : ¬ c = 10 := fun h => h1 (Or.inr h)
    simp [escC, h9, h10]
theorem take_succ (l : List UInt8) (k : Nat) (h : k < l.length) : l.take (k + 1) = l.take k ++ [l[k]] := List.take_succ_eq_append_getElem h
theorem esc_take (l : List UInt8) (k : Nat) (h : k < l.length) : esc (l.take (k + 1)) = esc (l.take k) ++ escC l[k] := by
  rw [take_succ l k h, esc_append]; simp [esc]
theorem brk_take (l : List UInt8) (k : Nat) (h : k < l.length) : brk (l.take (k + 1)) = brk (l.take k) + if l[k] = 9 ∨ l[k] = 10 then 1 else 0 := by
  rw [take_succ l k h, brk_append, brk_one]
theorem brk_take_le (l : List UInt8) (k : Nat) : brk (l.take k) ≤ brk l := by
  have : brk l = brk (l.take k) + brk (l.drop k) := by rw [← brk_append, List.take_append_drop]
  omega
theorem esc_take_le (l : List UInt8) (k : Nat) (h : k < l.length) : (esc (l.take k)).length + (escC l[k]).length ≤ (esc l).length := by
  have e : esc l = esc (l.take (k + 1)) ++ esc (l.drop (k + 1)) := by rw [← esc_append, List.take_append_drop]
  rw [e, esc_take l k h]
  simp

/-! ### What the laws say -/
theorem esc_brk (l : List UInt8) : brk (esc l) = 0 := by
  induction l with
  | nil => rfl
  | cons c l ih =>
    rw [esc_cons, brk_append, ih]
    unfold escC
    by_cases h9 : c = 9
    · simp [h9, e9]; decide
    · by_cases h10 : c = 10
      · simp [h10, e10]; decide
      · simp [h9, h10, brk_one]
theorem esc_esc (l : List UInt8) : esc (esc l) = esc l := esc_same _ (esc_brk l)
theorem esc_eq_iff (l : List UInt8) : esc l = l ↔ brk l = 0 := by
  constructor
  · intro h; have := esc_length l; rw [h] at this; omega
  · exact esc_same l
end Go.Proofs.Qxb6616464a.Esc
