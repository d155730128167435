/-
  The plain mathematics of a merge and of dropping repeats. No Go in sight.
-/
import Derived.Test.Qxb6616383aOrd
import Derived.Test.Qxb6616383aTarjan
namespace Go.Proofs.Qxb6616383a.Plain
open Go

/-- Within each chunk of that width the texts do not fall, below n. -/
def Srt (wd n : Nat) (f : Nat → ByteArray) : Prop := ∀ i j, i < j → j < n → i / wd = j / wd → leS (f i) (f j)
/-- The same texts stand in lo .. hi. -/
def Same (lo hi : Nat) (f g : Nat → ByteArray) : Prop := (∀ i, lo ≤ i → i < hi → ∃ j, lo ≤ j ∧ j < hi ∧ g i = f j) ∧ (∀ j, lo ≤ j → j < hi → ∃ i, lo ≤ i ∧ i < hi ∧ g i = f j)
theorem Same.refl (lo hi : Nat) (f : Nat → ByteArray) : Same lo hi f f := ⟨fun i a b => ⟨i, a, b, rfl⟩, fun i a b => ⟨i, a, b, rfl⟩⟩
theorem Same.trans {lo hi : Nat} {f g h : Nat → ByteArray} (a : Same lo hi f g) (b : Same lo hi g h) : Same lo hi f h := by
  constructor
  · intro i h1 h2
    obtain ⟨j, j1, j2, e⟩ := b.1 i h1 h2
    obtain ⟨k, k1, k2, e'⟩ := a.1 j j1 j2
    exact ⟨k, k1, k2, e.trans e'⟩
  · intro i h1 h2
    obtain ⟨j, j1, j2, e⟩ := a.2 i h1 h2
    obtain ⟨k, k1, k2, e'⟩ := b.2 j j1 j2
    exact ⟨k, k1, k2, e'.trans e⟩
theorem Same.join {lo mid hi : Nat} {f g : Nat → ByteArray} (a : Same lo mid f g) (b : Same mid hi f g) (h1 : lo ≤ mid) (h2 : mid ≤ hi) : Same lo hi f g := by
  constructor
  · intro i i1 i2
    rcases Nat.lt_or_ge i mid with h | h
    · obtain ⟨j, j1, j2, e⟩ := a.1 i i1 h
      exact ⟨j, j1, by omega, e⟩
    · obtain ⟨j, j1, j2, e⟩ := b.1 i h i2
      exact ⟨j, by omega, j2, e⟩
  · intro i i1 i2
    rcases Nat.lt_or_ge i mid with h | h
    · obtain ⟨j, j1, j2, e⟩ := a.2 i i1 h
      exact ⟨j, j1, by omega, e⟩
    · obtain ⟨j, j1, j2, e⟩ := b.2 i h i2
      exact ⟨j, by omega, j2, e⟩
theorem Same.congr {lo hi : Nat} {f g h : Nat → ByteArray} (a : Same lo hi f g) (e : ∀ i, lo ≤ i → i < hi → h i = g i) : Same lo hi f h := by
  constructor
  · intro i i1 i2
    rw [e i i1 i2]; exact a.1 i i1 i2
  · intro i i1 i2
    obtain ⟨j, j1, j2, ee⟩ := a.2 i i1 i2
    exact ⟨j, j1, j2, by rw [e j j1 j2, ee]⟩

structure Mg (lo mid hi : Nat) (f : Nat → ByteArray) (i j k : Nat) (d : Nat → ByteArray) : Prop where
  li : lo ≤ i
  im : i ≤ mid
  mj : mid ≤ j
  jh : j ≤ hi
  kk : k + mid = i + j
  srt : ∀ p q, lo ≤ p → p < q → q < k → leS (d p) (d q)
  lei : ∀ p, lo ≤ p → p < k → i < mid → leS (d p) (f i)
  lej : ∀ p, lo ≤ p → p < k → j < hi → leS (d p) (f j)
  from_ : ∀ p, lo ≤ p → p < k → ∃ q, lo ≤ q ∧ q < hi ∧ d p = f q
  to_ : ∀ q, (lo ≤ q ∧ q < i) ∨ (mid ≤ q ∧ q < j) → ∃ p, lo ≤ p ∧ p < k ∧ d p = f q

theorem Mg.start {lo mid hi : Nat} (f d : Nat → ByteArray) (h1 : lo ≤ mid) (h2 : mid ≤ hi) : Mg lo mid hi f lo mid lo d where
  li := Nat.le_refl _
  im := h1
  mj := Nat.le_refl _
  jh := h2
  kk := rfl
  srt := fun p q a b c => by omega
  lei := fun p a b => by omega
  lej := fun p a b => by omega
  from_ := fun p a b => by omega
  to_ := fun q h => by omega

/-- 'the next text is f z', z the one index or the other. -/
theorem Mg.left {lo mid hi i j k : Nat} {f d : Nat → ByteArray} (h : Mg lo mid hi f i j k d) (hk : k < hi) (h1 : ∀ p q, lo ≤ p → p < q → q < mid → leS (f p) (f q))
    (hc : hi ≤ j ∨ (i < mid ∧ leS (f i) (f j))) : Mg lo mid hi f (i + 1) j (k + 1) (upd d k (f i)) := by
  have him : i < mid := by have := h.kk; have := h.jh; omega
  have hlk : lo ≤ k := by have := h.kk; have := h.li; have := h.mj; omega
  have hd : ∀ p, p < k → upd d k (f i) p = d p := fun p hp => by simp [upd, show p ≠ k by omega]
  have hdk : upd d k (f i) k = f i := by simp [upd]
  constructor
  · have := h.li; omega
  · omega
  · exact h.mj
  · exact h.jh
  · have := h.kk; omega
  · intro p q a b c
    rcases Nat.lt_or_ge q k with hq | hq
    · rw [hd q hq, hd p (by omega)]; exact h.srt p q a b hq
    · have : q = k := by omega
      subst this
      rw [hdk, hd p b]; exact h.lei p a b him
  · intro p a b c
    rcases Nat.lt_or_ge p k with hq | hq
    · rw [hd p hq]; exact leS_trans (h.lei p a hq him) (h1 i (i + 1) h.li (by omega) c)
    · have : p = k := by omega
      subst this
      rw [hdk]; exact h1 i (i + 1) h.li (by omega) c
  · intro p a b c
    rcases Nat.lt_or_ge p k with hq | hq
    · rw [hd p hq]; exact h.lej p a hq c
    · have : p = k := by omega
      subst this
      rw [hdk]
      rcases hc with hc | hc
      · omega
      · exact hc.2
  · intro p a b
    rcases Nat.lt_or_ge p k with hq | hq
    · rw [hd p hq]; exact h.from_ p a hq
    · have : p = k := by omega
      subst this
      exact ⟨i, h.li, by have := h.mj; have := h.jh; omega, hdk⟩
  · intro q hq
    by_cases hqi : q = i
    · subst hqi; exact ⟨k, hlk, by omega, hdk⟩
    · obtain ⟨p, p1, p2, p3⟩ := h.to_ q (by omega)
      exact ⟨p, p1, by omega, by rw [hd p p2, p3]⟩
theorem Mg.right {lo mid hi i j k : Nat} {f d : Nat → ByteArray} (h : Mg lo mid hi f i j k d) (h2 : ∀ p q, mid ≤ p → p < q → q < hi → leS (f p) (f q)) (hj : j < hi)
    (hc : mid ≤ i ∨ leS (f j) (f i)) : Mg lo mid hi f i (j + 1) (k + 1) (upd d k (f j)) := by
  have hlk : lo ≤ k := by have := h.kk; have := h.li; have := h.mj; omega
  have hd : ∀ p, p < k → upd d k (f j) p = d p := fun p hp => by simp [upd, show p ≠ k by omega]
  have hdk : upd d k (f j) k = f j := by simp [upd]
  constructor
  · exact h.li
  · exact h.im
  · have := h.mj; omega
  · omega
  · have := h.kk; omega
  · intro p q a b c
    rcases Nat.lt_or_ge q k with hq | hq
    · rw [hd q hq, hd p (by omega)]; exact h.srt p q a b hq
    · have : q = k := by omega
      subst this
      rw [hdk, hd p b]; exact h.lej p a b hj
  · intro p a b c
    rcases Nat.lt_or_ge p k with hq | hq
    · rw [hd p hq]; exact h.lei p a hq c
    · have : p = k := by omega
      subst this
      rw [hdk]
      rcases hc with hc | hc
      · omega
      · exact hc
  · intro p a b c
    rcases Nat.lt_or_ge p k with hq | hq
    · rw [hd p hq]; exact leS_trans (h.lej p a hq hj) (h2 j (j + 1) h.mj (by omega) c)
    · have : p = k := by omega
      subst this
      rw [hdk]; exact h2 j (j + 1) h.mj (by omega) c
  · intro p a b
    rcases Nat.lt_or_ge p k with hq | hq
    · rw [hd p hq]; exact h.from_ p a hq
    · have : p = k := by omega
      subst this
      exact ⟨j, by have := h.mj; have := h.li; have := h.im; omega, hj, hdk⟩
  · intro q hq
    by_cases hqi : q = j
    · subst hqi; exact ⟨k, hlk, by omega, hdk⟩
    · obtain ⟨p, p1, p2, p3⟩ := h.to_ q (by omega)
      exact ⟨p, p1, by omega, by rw [hd p p2, p3]⟩
theorem Mg.done {lo mid hi i j : Nat} {f d : Nat → ByteArray} (h : Mg lo mid hi f i j hi d) : Same lo hi f d ∧ ∀ p q, lo ≤ p → p < q → q < hi → leS (d p) (d q) := by
  refine ⟨⟨h.from_, fun q a b => ?_⟩, h.srt⟩
  exact h.to_ q (by have := h.kk; have := h.im; have := h.jh; omega)

/-- What the merges of one pass have done: everything below lo (a multiple of twice the width) stands merged. -/
structure Pass (wd n : Nat) (f : Nat → ByteArray) (lo : Nat) (d : Nat → ByteArray) : Prop where
  mult : ∃ q, lo = 2 * wd * q
  srt : ∀ i j, i < j → j < lo → j < n → i / (2 * wd) = j / (2 * wd) → leS (d i) (d j)
  same : Same 0 (min lo n) f d
theorem Pass.start (wd n : Nat) (f d : Nat → ByteArray) : Pass wd n f 0 d := ⟨⟨0, rfl⟩, fun i j _ h => by omega, ⟨fun i _ h => by omega, fun i _ h => by omega⟩⟩
/-- The halves of a chunk are sorted. -/
theorem Srt.halves {wd n lo : Nat} {f : Nat → ByteArray} (h : Srt wd n f) (hm : ∃ q, lo = 2 * wd * q) :
    (∀ p q, lo ≤ p → p < q → q < min (lo + wd) n → leS (f p) (f q)) ∧ (∀ p q, lo + wd ≤ p → p < q → q < min (lo + 2 * wd) n → leS (f p) (f q)) := by
  obtain ⟨c, hc⟩ := hm
  have e1 : lo = wd * (2 * c) := by rw [hc, Nat.mul_comm 2 wd, Nat.mul_assoc]
  have dv : ∀ x m, wd * m ≤ x → x < wd * m + wd → x / wd = m := by
    intro x m h1 h2
    apply Nat.div_eq_of_lt_le
    · rw [Nat.mul_comm]; exact h1
    · rw [Nat.succ_mul, Nat.mul_comm m wd]; exact h2
  refine ⟨fun p q a b c' => h p q b (by omega) ?_, fun p q a b c' => h p q b (by omega) ?_⟩
  · rw [dv p (2 * c) (by omega) (by omega), dv q (2 * c) (by omega) (by omega)]
  · have e2 : wd * (2 * c + 1) = lo + wd := by rw [Nat.mul_add, ← e1]; omega
    rw [dv p (2 * c + 1) (by omega) (by omega), dv q (2 * c + 1) (by omega) (by omega)]
theorem Pass.step {wd n lo : Nat} {f d d' : Nat → ByteArray} (h : Pass wd n f lo d) (hw : 0 < wd) (hln : lo < n) (hd : ∀ p, p < lo → d' p = d p) (hs : Same lo (min (lo + 2 * wd) n) f d')
    (hsrt : ∀ p q, lo ≤ p → p < q → q < min (lo + 2 * wd) n → leS (d' p) (d' q)) : Pass wd n f (lo + 2 * wd) d' := by
  obtain ⟨c, hc⟩ := h.mult
  refine ⟨⟨c + 1, by rw [Nat.mul_succ, hc]⟩, ?_, ?_⟩
  · intro i j hij hj hjn e
    rcases Nat.lt_or_ge j lo with h1 | h1
    · rw [hd i (by omega), hd j h1]; exact h.srt i j hij h1 hjn e
    · rcases Nat.lt_or_ge i lo with h2 | h2
      · exfalso
        have a1 : i / (2 * wd) < c := Nat.div_lt_of_lt_mul (by omega)
        have a2 : c ≤ j / (2 * wd) := (Nat.le_div_iff_mul_le (by omega)).2 (by rw [Nat.mul_comm]; omega)
        omega
      · exact hsrt i j h2 hij (by omega)
  · have hlo : min lo n = lo := by omega
    refine Same.join (mid := lo) ?_ hs (by omega) (by omega)
    have := h.same
    rw [hlo] at this
    exact this.congr (fun i _ hi => hd i hi)
theorem Pass.done {wd n lo : Nat} {f d : Nat → ByteArray} (h : Pass wd n f lo d) (hl : n ≤ lo) : Srt (2 * wd) n d ∧ Same 0 n f d := by
  refine ⟨fun i j a b c => h.srt i j a (by omega) b c, ?_⟩
  have := h.same
  rw [show min lo n = n by omega] at this
  exact this
theorem Srt.one (n : Nat) (f : Nat → ByteArray) : Srt 1 n f := fun i j a b c => by rw [Nat.div_one, Nat.div_one] at c; omega
theorem Srt.all {wd n : Nat} {f : Nat → ByteArray} (h : Srt wd n f) (hn : n ≤ wd) : ∀ i j, i < j → j < n → leS (f i) (f j) := fun i j a b => h i j a b (by rw [Nat.div_eq_of_lt (by omega), Nat.div_eq_of_lt (by omega)])

/-! ### Dropping the repeats of a sorted row -/
/-- Of the first k texts of the sorted row f those that are new, m of them, stand in d. -/
structure Uniq (f : Nat → ByteArray) (k m : Nat) (d : Nat → ByteArray) : Prop where
  le : m ≤ k
  rises : Rises m d
  from_ : ∀ p, p < m → ∃ q, q < k ∧ d p = f q
  to_ : ∀ q, q < k → ∃ p, p < m ∧ d p = f q
theorem Uniq.start (f d : Nat → ByteArray) : Uniq f 0 0 d := ⟨Nat.le_refl _, fun i j _ h => by omega, fun p h => by omega, fun p h => by omega⟩
theorem Uniq.skip {f d : Nat → ByteArray} {k m : Nat} (h : Uniq f (k + 1) m d) (e : f (k + 1) = f k) : Uniq f (k + 2) m d := by
  refine ⟨by have := h.le; omega, h.rises, fun p hp => ?_, fun q hq => ?_⟩
  · obtain ⟨q, a, b⟩ := h.from_ p hp; exact ⟨q, by omega, b⟩
  · rcases Nat.lt_or_ge q (k + 1) with hh | hh
    · exact h.to_ q hh
    · have : q = k + 1 := by omega
      subst this
      rw [e]; exact h.to_ k (by omega)
theorem Uniq.add {f d d' : Nat → ByteArray} {n k m : Nat} (hs : ∀ i j, i < j → j < n → leS (f i) (f j)) (h : Uniq f k m d) (hk : k < n) (hne : k = 0 ∨ f k ≠ f (k - 1)) (hd : ∀ p, p < m → d' p = d p) (hm : d' m = f k) :
    Uniq f (k + 1) (m + 1) d' := by
  have hlast : ∀ q, q < k → ltS (f q) (f k) = true := by
    intro q hq
    have h1 : leS (f q) (f (k - 1)) := by
      by_cases e : q = k - 1
      · rw [e]; exact leS_refl _
      · exact hs q (k - 1) (by omega) (by omega)
    have h2 : ltS (f (k - 1)) (f k) = true := lt_of_leS_ne (hs (k - 1) k (by omega) hk) (fun e => hne.elim (fun h0 => by omega) (fun h0 => h0 e.symm))
    exact lt_of_le_lt h1 h2
  refine ⟨by have := h.le; omega, ?_, ?_, ?_⟩
  · intro i j hij hj
    rcases Nat.lt_or_ge j m with h1 | h1
    · rw [hd i (by omega), hd j h1]; exact h.rises i j hij h1
    · have : j = m := by omega
      subst this
      rw [hd i hij, hm]
      obtain ⟨q, a, b⟩ := h.from_ i hij
      rw [b]; exact hlast q a
  · intro p hp
    rcases Nat.lt_or_ge p m with h1 | h1
    · obtain ⟨q, a, b⟩ := h.from_ p h1; exact ⟨q, by omega, by rw [hd p h1, b]⟩
    · have : p = m := by omega
      subst this
      exact ⟨k, by omega, hm⟩
  · intro q hq
    rcases Nat.lt_or_ge q k with h1 | h1
    · obtain ⟨p, a, b⟩ := h.to_ q h1; exact ⟨p, by omega, by rw [hd p a, b]⟩
    · have : q = k := by omega
      subst this
      exact ⟨m, by omega, hm⟩
end Go.Proofs.Qxb6616383a.Plain
