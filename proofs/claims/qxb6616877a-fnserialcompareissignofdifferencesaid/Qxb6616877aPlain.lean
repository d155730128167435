/-
  The plain mathematics: the borrow of a subtraction from the lowest octet up is the lexicographic order.
-/
import Derived.Lib.Bytealg
namespace Go.Proofs.Qxb6616877a.Plain
open Go

/-- The lexicographic order of two lists of one length. -/
def ltL : List Int → List Int → Bool
  | a :: as, b :: bs => decide (a < b) || (decide (a = b) && ltL as bs)
  | _, _ => false
def neL (as bs : List Int) : Bool := decide (as ≠ bs)
/-- The sign. -/
def sgn (as bs : List Int) : Int := if ltL as bs then -1 else if neL as bs then 1 else 0
def brw (b : Bool) : Int := if b then 1 else 0

theorem brw_01 (b : Bool) : brw b = 0 ∨ brw b = 1 := by cases b <;> simp [brw]

theorem ltL_ne : ∀ (as bs : List Int), ltL as bs = true → neL as bs = true := by
  intro as
  induction as with
  | nil => intro bs h; cases bs <;> simp [ltL] at h
  | cons a as ih =>
    intro bs h
    cases bs with
    | nil => simp [ltL] at h
    | cons b bs =>
      simp only [ltL, Bool.or_eq_true, decide_eq_true_eq, Bool.and_eq_true] at h
      simp only [neL, decide_eq_true_eq, ne_eq, List.cons.injEq, not_and]
      intro hab
      rcases h with h | ⟨_, h⟩
      · omega
      · have := ih bs h
        simpa [neL] using this

theorem ltL_step (a b : Int) (as bs : List Int) : ltL (a :: as) (b :: bs) = decide (a - b - brw (ltL as bs) < 0) := by
  rw [ltL, Bool.eq_iff_iff]
  simp only [Bool.or_eq_true, decide_eq_true_eq, Bool.and_eq_true]
  cases ltL as bs <;> simp [brw] <;> omega

theorem neL_step (a b : Int) (as bs : List Int) (h0 : 0 ≤ a ∧ a ≤ 255) (h1 : 0 ≤ b ∧ b ≤ 255) (d : Int)
    (hd : d = if a - b - brw (ltL as bs) < 0 then a - b - brw (ltL as bs) + 256 else a - b - brw (ltL as bs)) :
    neL (a :: as) (b :: bs) = (neL as bs || (d != 0)) := by
  have hl := ltL_ne as bs
  rw [Bool.eq_iff_iff]
  simp only [neL, decide_eq_true_eq, ne_eq, List.cons.injEq, Bool.or_eq_true, bne_iff_ne] at *
  cases hc : ltL as bs with
  | false =>
    simp only [hc, brw] at hd
    by_cases h : as = bs
    · simp only [h, and_true, not_true_eq_false, false_or]
      simp at hd
      split at hd <;> omega
    · simp [h]
  | true => simp [hl hc]

theorem sgn_swap : ∀ (as bs : List Int), as.length = bs.length → sgn bs as = - sgn as bs := by
  intro as
  induction as with
  | nil => intro bs h; cases bs with
    | nil => simp [sgn, ltL, neL]
    | cons b bs => simp at h
  | cons a as ih =>
    intro bs h
    cases bs with
    | nil => simp at h
    | cons b bs =>
      have h' := ih bs (by simpa using h)
      unfold sgn at *
      simp only [ltL, neL] at *
      rcases Int.lt_trichotomy a b with hab | hab | hab
      · have e1 : ¬ b < a := by omega
        have e2 : ¬ b = a := by omega
        have e3 : ¬ a = b := by omega
        simp [hab, e1, e2, e3]
      · subst hab
        simpa using h'
      · have e1 : ¬ a < b := by omega
        have e2 : ¬ b = a := by omega
        have e3 : ¬ a = b := by omega
        simp [hab, e1, e2, e3]

def octs (as : List Int) : List UInt8 := as.map fun a => a.toNat.toUInt8

theorem oct_lt (a b : Int) (h0 : 0 ≤ a ∧ a ≤ 255) (h1 : 0 ≤ b ∧ b ≤ 255) : (a.toNat.toUInt8 < b.toNat.toUInt8) ↔ a < b := by
  rw [UInt8.lt_iff_toNat_lt]
  simp only [Nat.toUInt8, UInt8.toNat_ofNat']
  omega

theorem compare_octs : ∀ (as bs : List Int), as.length = bs.length → (∀ a ∈ as, 0 ≤ a ∧ a ≤ 255) → (∀ b ∈ bs, 0 ≤ b ∧ b ≤ 255) → Lib.compareBytes (octs as) (octs bs) = sgn as bs := by
  intro as
  induction as with
  | nil => intro bs h _ _; cases bs with
    | nil => simp [octs, Lib.compareBytes, sgn, ltL, neL]
    | cons b bs => simp at h
  | cons a as ih =>
    intro bs h ha hb
    cases bs with
    | nil => simp at h
    | cons b bs =>
      have h' := ih bs (by simpa using h) (fun x hx => ha x (List.mem_cons_of_mem _ hx)) (fun x hx => hb x (List.mem_cons_of_mem _ hx))
      have ba := ha a (by simp)
      have bb := hb b (by simp)
      simp only [octs, List.map_cons, Lib.compareBytes] at *
      have e1 := oct_lt a b ba bb
      have e2 := oct_lt b a bb ba
      unfold sgn
      simp only [ltL, neL]
      rcases Int.lt_trichotomy a b with hab | hab | hab
      · simp [e1, hab]
      · subst hab
        rw [if_neg (by rw [e1]; omega), if_neg (by rw [e1]; omega), h']
        simp [sgn, neL]
      · have e3 : ¬ a < b := by omega
        have e4 : ¬ a = b := by omega
        simp [e1, e2, hab, e3, e4]
end Go.Proofs.Qxb6616877a.Plain
