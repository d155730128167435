/-
  The plain mathematics of a binary heap of numbers, told by a function of the index. No Go in sight.
-/
import Derived.Test.Qxb6616383aTarjan
namespace Go.Proofs.Qxb6616383a.Plain

def Chd (p c : Nat) : Prop := c = 2 * p + 1 ∨ c = 2 * p + 2
/-- Every parent from a on is no greater than its children. -/
def HP (n : Nat) (q : Nat → Nat) (a : Nat) : Prop := ∀ p c, a ≤ p → Chd p c → c < n → q p ≤ q c
def swp (q : Nat → Nat) (i j : Nat) : Nat → Nat := upd (upd q i (q j)) j (q i)
theorem swp_at (q : Nat → Nat) (i j k : Nat) : swp q i j k = if k = j then q i else if k = i then q j else q k := by simp only [swp, upd]
theorem swp_comm (q : Nat → Nat) (i j : Nat) : upd (upd q j (q i)) i (q j) = swp q i j := by
  funext k
  simp only [swp, upd]
  by_cases h1 : k = i <;> by_cases h2 : k = j
  · subst h1; subst h2; simp
  · simp [h1]
    intro e; subst e; rfl
  · simp [h2]
    intro e; subst e; rfl
  · simp [h1, h2]
def Inj (n : Nat) (q : Nat → Nat) : Prop := ∀ i j, i < n → j < n → q i = q j → i = j
/-- x stands in the heap. -/
def In (n : Nat) (q : Nat → Nat) (x : Nat) : Prop := ∃ i, i < n ∧ q i = x
/-- The same numbers, in another order. -/
structure Mix (n : Nat) (q q' : Nat → Nat) : Prop where
  inj : Inj n q → Inj n q'
  mem : ∀ x, In n q' x ↔ In n q x
  out : ∀ k, n ≤ k → q' k = q k
theorem Mix.refl (n : Nat) (q : Nat → Nat) : Mix n q q := ⟨id, fun _ => Iff.rfl, fun _ _ => rfl⟩
theorem Mix.trans {n : Nat} {a b c : Nat → Nat} (h : Mix n a b) (k : Mix n b c) : Mix n a c :=
  ⟨fun i => k.inj (h.inj i), fun x => (k.mem x).trans (h.mem x), fun i hi => (k.out i hi).trans (h.out i hi)⟩
theorem Mix.swap {n i j : Nat} (q : Nat → Nat) (hi : i < n) (hj : j < n) : Mix n q (swp q i j) := by
  refine ⟨?_, ?_, ?_⟩
  · intro h a b ha hb e
    rw [swp_at, swp_at] at e
    by_cases a1 : a = j <;> by_cases b1 : b = j
    · omega
    · rw [if_pos a1, if_neg b1] at e
      by_cases b2 : b = i
      · rw [if_pos b2] at e; have := h i j hi hj e; omega
      · rw [if_neg b2] at e; have := h i b hi hb e; omega
    · rw [if_neg a1, if_pos b1] at e
      by_cases a2 : a = i
      · rw [if_pos a2] at e; have := h j i hj hi e; omega
      · rw [if_neg a2] at e; have := h a i ha hi e; omega
    · rw [if_neg a1, if_neg b1] at e
      by_cases a2 : a = i <;> by_cases b2 : b = i
      · omega
      · rw [if_pos a2, if_neg b2] at e; have := h j b hj hb e; omega
      · rw [if_neg a2, if_pos b2] at e; have := h a j ha hj e; omega
      · rw [if_neg a2, if_neg b2] at e; exact h a b ha hb e
  · intro x
    constructor
    · rintro ⟨k, hk, e⟩
      rw [swp_at] at e
      by_cases a1 : k = j
      · rw [if_pos a1] at e; exact ⟨i, hi, e⟩
      · rw [if_neg a1] at e
        by_cases a2 : k = i
        · rw [if_pos a2] at e; exact ⟨j, hj, e⟩
        · rw [if_neg a2] at e; exact ⟨k, hk, e⟩
    · rintro ⟨k, hk, e⟩
      by_cases a1 : k = j
      · by_cases hij : i = j
        · exact ⟨j, hj, by rw [swp_at, if_pos rfl, hij, ← a1, e]⟩
        · exact ⟨i, hi, by rw [swp_at, if_neg hij, if_pos rfl, ← a1, e]⟩
      · by_cases a2 : k = i
        · exact ⟨j, hj, by rw [swp_at, if_pos rfl, ← a2, e]⟩
        · exact ⟨k, hk, by rw [swp_at, if_neg a1, if_neg a2, e]⟩
  · intro k hk
    rw [swp_at, if_neg (by omega), if_neg (by omega)]

structure Down (n : Nat) (q : Nat → Nat) (a i : Nat) : Prop where
  le : a ≤ i
  ok : ∀ p c, a ≤ p → p ≠ i → Chd p c → c < n → q p ≤ q c
  dom : ∀ p c, a ≤ p → Chd p i → Chd i c → c < n → q p ≤ q c
theorem Down.start {n a : Nat} {q : Nat → Nat} (h : HP n q (a + 1)) : Down n q a a :=
  ⟨Nat.le_refl _, fun p c h1 h2 h3 h4 => h p c (by omega) h3 h4, fun p c h1 h2 => by unfold Chd at h2; omega⟩
theorem Down.step {n a i j : Nat} {q : Nat → Nat} (h : Down n q a i) (hc : Chd i j) (hj : j < n) (hlt : q j < q i) (hmin : ∀ c, Chd i c → c < n → q j ≤ q c) : Down n (swp q i j) a j := by
  have hij : i < j := by unfold Chd at hc; omega
  have hle := h.le
  refine ⟨by omega, ?_, ?_⟩
  · intro p c h1 h2 h3 h4
    have hpc : p < c := by unfold Chd at h3; omega
    rw [swp_at, swp_at, if_neg h2]
    by_cases hpi : p = i
    · subst hpi
      rw [if_pos rfl]
      by_cases hcj : c = j
      · rw [if_pos hcj]; omega
      · rw [if_neg hcj, if_neg (by omega)]; exact hmin c h3 h4
    · rw [if_neg hpi]
      by_cases hcj : c = j
      · exfalso; unfold Chd at h3 hc; omega
      · rw [if_neg hcj]
        by_cases hci : c = i
        · subst hci; rw [if_pos rfl]; exact h.dom p j h1 h3 hc hj
        · rw [if_neg hci]; exact h.ok p c h1 hpi h3 h4
  · intro p c h1 h2 h3 h4
    have : p = i := by unfold Chd at h2 hc; omega
    subst this
    have hjc : j < c := by unfold Chd at h3; omega
    rw [swp_at, swp_at, if_neg (by omega), if_pos rfl, if_neg (by omega), if_neg (by omega)]
    exact h.ok j c (by omega) (by omega) h3 h4
theorem Down.done {n a i : Nat} {q : Nat → Nat} (h : Down n q a i) (hmin : ∀ c, Chd i c → c < n → q i ≤ q c) : HP n q a := by
  intro p c h1 h2 h3
  by_cases hp : p = i
  · subst hp; exact hmin c h2 h3
  · exact h.ok p c h1 hp h2 h3
structure Up (n : Nat) (q : Nat → Nat) (j : Nat) : Prop where
  ok : ∀ p c, Chd p c → c < n → c ≠ j → q p ≤ q c
  dom : ∀ p c, Chd p j → Chd j c → c < n → q p ≤ q c
theorem Up.start {n x : Nat} {q : Nat → Nat} (h : HP n q 0) : Up (n + 1) (upd q n x) n := by
  refine ⟨fun p c h1 h2 h3 => ?_, fun p c h1 h2 h3 => by unfold Chd at h2; omega⟩
  have : p < c := by unfold Chd at h1; omega
  simp only [upd]
  rw [if_neg (by omega), if_neg h3]; exact h p c (by omega) h1 (by omega)
theorem Up.step {n i j : Nat} {q : Nat → Nat} (h : Up n q j) (hj : j < n) (hc : Chd i j) (hlt : q j < q i) : Up n (swp q i j) i := by
  have hij : i < j := by unfold Chd at hc; omega
  refine ⟨?_, ?_⟩
  · intro p c h1 h2 h3
    have hpc : p < c := by unfold Chd at h1; omega
    rw [swp_at, swp_at]
    by_cases hcj : c = j
    · have : p = i := by unfold Chd at h1 hc; omega
      subst this
      rw [if_neg (by omega), if_pos rfl, if_pos hcj]; omega
    · rw [if_neg hcj, if_neg h3]
      by_cases hpj : p = j
      · subst hpj; rw [if_pos rfl]; exact h.dom i c hc h1 h2
      · rw [if_neg hpj]
        by_cases hpi : p = i
        · subst hpi; rw [if_pos rfl]; have := h.ok p c h1 h2 hcj; omega
        · rw [if_neg hpi]; exact h.ok p c h1 h2 hcj
  · intro p c h1 h2 h3
    have hpi : p < i := by unfold Chd at h1; omega
    have a1 := h.ok p i h1 (by omega) (by omega)
    rw [swp_at, swp_at, if_neg (by omega), if_neg (by omega)]
    by_cases hcj : c = j
    · rw [if_pos hcj]; exact a1
    · have : i < c := by unfold Chd at h2; omega
      rw [if_neg hcj, if_neg (by omega)]; exact Nat.le_trans a1 (h.ok i c h2 h3 hcj)
theorem Up.done {n j : Nat} {q : Nat → Nat} (h : Up n q j) (hd : j = 0 ∨ ∃ i, Chd i j ∧ q i ≤ q j) : HP n q 0 := by
  intro p c _ h1 h2
  by_cases hc : c = j
  · subst hc
    rcases hd with hd | ⟨i, hi, hle⟩
    · unfold Chd at h1; omega
    · have : i = p := by unfold Chd at hi h1; omega
      subst this; exact hle
  · exact h.ok p c h1 h2 hc
theorem HP.least {n : Nat} {q : Nat → Nat} (h : HP n q 0) : ∀ k, k < n → q 0 ≤ q k := by
  intro k
  induction k using Nat.strongRecOn with
  | _ k ih =>
    intro hk
    by_cases h0 : k = 0
    · subst h0; exact Nat.le_refl _
    · have h1 := ih ((k - 1) / 2) (by omega) (by omega)
      have h2 := h ((k - 1) / 2) k (by omega) (by unfold Chd; omega) hk
      omega
theorem HP.leaves {n : Nat} (q : Nat → Nat) : HP n q (n / 2) := fun p c h1 h2 h3 => by unfold Chd at h2; omega
/-- The heap without its least: what Pop leaves. -/
theorem HP.pop {n : Nat} {q : Nat → Nat} (h : HP (n + 1) q 0) : HP n (swp q 0 n) 1 := by
  intro p c h1 h2 h3
  have : p < c := by unfold Chd at h2; omega
  rw [swp_at, swp_at, if_neg (by omega), if_neg (by omega), if_neg (by omega), if_neg (by omega)]
  exact h p c (by omega) h2 (by omega)
theorem pop_mem {n : Nat} {q : Nat → Nat} (hi : Inj (n + 1) q) (x : Nat) : In n (swp q 0 n) x ↔ In (n + 1) q x ∧ x ≠ q 0 := by
  have hm := (Mix.swap q (i := 0) (j := n) (n := n + 1) (by omega) (by omega))
  have hlast : swp q 0 n n = q 0 := by rw [swp_at, if_pos rfl]
  have hinj := hm.inj hi
  constructor
  · rintro ⟨k, hk, e⟩
    refine ⟨(hm.mem x).1 ⟨k, by omega, e⟩, fun h0 => ?_⟩
    have := hinj k n (by omega) (by omega) (by rw [e, hlast, h0])
    omega
  · rintro ⟨h1, h2⟩
    obtain ⟨k, hk, e⟩ := (hm.mem x).2 h1
    by_cases hkn : k = n
    · subst hkn; rw [hlast] at e; exact absurd e.symm h2
    · exact ⟨k, by omega, e⟩
theorem push_mem {n y : Nat} {q : Nat → Nat} (x : Nat) : In (n + 1) (upd q n y) x ↔ In n q x ∨ x = y := by
  constructor
  · rintro ⟨k, hk, e⟩
    simp only [upd] at e
    by_cases hkn : k = n
    · rw [if_pos hkn] at e; exact Or.inr e.symm
    · rw [if_neg hkn] at e; exact Or.inl ⟨k, by omega, e⟩
  · rintro (⟨k, hk, e⟩ | h)
    · exact ⟨k, by omega, by simp only [upd]; rw [if_neg (by omega), e]⟩
    · exact ⟨n, by omega, by simp [upd, h]⟩
theorem push_inj {n y : Nat} {q : Nat → Nat} (hi : Inj n q) (hy : ¬ In n q y) : Inj (n + 1) (upd q n y) := by
  intro a b ha hb e
  simp only [upd] at e
  by_cases a1 : a = n <;> by_cases b1 : b = n
  · omega
  · rw [if_pos a1, if_neg b1] at e; exact absurd ⟨b, by omega, e.symm⟩ hy
  · rw [if_neg a1, if_pos b1] at e; exact absurd ⟨a, by omega, e⟩ hy
  · rw [if_neg a1, if_neg b1] at e; exact hi a b (by omega) (by omega) e
end Go.Proofs.Qxb6616383a.Plain
