/-
  The plain mathematics of the lists by name: a counting sort, then each list sorted and without repeats. No Go in sight.
-/
import Derived.Test.Qxb6616383aTarjan
import Derived.Lib.SlicesCompact
namespace Go.Proofs.Qxb6616383a.Plain
open Go

/-- How many of the first K have the key v. -/
def cnt (x : Nat → Nat) (v : Nat) : Nat → Nat
  | 0 => 0
  | K + 1 => cnt x v K + (if x K = v then 1 else 0)
/-- How many have a key below v. -/
def pre (x : Nat → Nat) (m : Nat) : Nat → Nat
  | 0 => 0
  | v + 1 => pre x m v + cnt x v m
theorem pre_step (x : Nat → Nat) (K : Nat) : ∀ n, pre x (K + 1) n = pre x K n + (if x K < n then 1 else 0) := by
  intro n
  induction n with
  | zero => simp [pre]
  | succ n ih =>
    simp only [pre, cnt, ih]
    by_cases h1 : x K < n
    · rw [if_pos h1, if_neg (by omega), if_pos (by omega)]; omega
    · by_cases h2 : x K = n
      · rw [if_neg h1, if_pos h2, if_pos (by omega)]; omega
      · rw [if_neg h1, if_neg h2, if_neg (by omega)]; omega
theorem pre_all (x : Nat → Nat) (n : Nat) : ∀ m, (∀ k, k < m → x k < n) → pre x m n = m := by
  intro m
  induction m with
  | zero =>
    intro _
    have : ∀ v, pre x 0 v = 0 := by
      intro v
      induction v with
      | zero => rfl
      | succ v ih => simp [pre, cnt, ih]
    exact this n
  | succ m ih =>
    intro h
    rw [pre_step, ih (fun k hk => h k (by omega)), if_pos (h m (by omega))]
theorem pre_mono (x : Nat → Nat) (m : Nat) : ∀ u v, u ≤ v → pre x m u ≤ pre x m v := by
  intro u v h
  induction v with
  | zero => rw [show u = 0 by omega]; exact Nat.le_refl _
  | succ v ih =>
    by_cases hu : u = v + 1
    · rw [hu]; exact Nat.le_refl _
    · have := ih (by omega)
      simp only [pre]; omega
theorem cnt_mono (x : Nat → Nat) (v : Nat) : ∀ K m, K ≤ m → cnt x v K ≤ cnt x v m := by
  intro K m h
  induction m with
  | zero => rw [show K = 0 by omega]; exact Nat.le_refl _
  | succ m ih =>
    by_cases hu : K = m + 1
    · rw [hu]; exact Nat.le_refl _
    · have := ih (by omega)
      simp only [cnt]; omega
/-- There is room for the next. -/
theorem cnt_room {x : Nat → Nat} {K m : Nat} (h : K < m) : cnt x (x K) K + 1 ≤ cnt x (x K) m := by
  have := cnt_mono x (x K) (K + 1) m h
  simp only [cnt, if_true] at this
  exact this
theorem cnt_le (x : Nat → Nat) (v : Nat) : ∀ K, cnt x v K ≤ K := by
  intro K
  induction K with
  | zero => exact Nat.le_refl _
  | succ K ih => simp only [cnt]; split <;> omega
theorem pre_le {x : Nat → Nat} {n m v : Nat} (h : ∀ k, k < m → x k < n) (hv : v ≤ n) : pre x m v ≤ m := by
  have := pre_mono x m v n hv
  rw [pre_all x n m h] at this
  exact this

/-- The first pass: start. -/
def st1 (x : Nat → Nat) (K : Nat) : Nat → Nat := fun i => if i = 0 then 0 else cnt x (i - 1) K
theorem st1_zero (x : Nat → Nat) : st1 x 0 = fun _ => 0 := by funext i; simp [st1, cnt]
theorem st1_step (x : Nat → Nat) (K : Nat) : upd (st1 x K) (x K + 1) (st1 x K (x K + 1) + 1) = st1 x (K + 1) := by
  funext i
  simp only [upd, st1]
  by_cases h0 : i = 0
  · subst h0; simp
  · by_cases h1 : i = x K + 1
    · subst h1; simp [cnt]
    · rw [if_neg h1, if_neg h0, if_neg h0]
      simp only [cnt]
      rw [if_neg (by omega)]; rfl
/-- The second pass: start. -/
def st2 (x : Nat → Nat) (m v : Nat) : Nat → Nat := fun i => if i ≤ v then pre x m i else cnt x (i - 1) m
theorem st2_zero (x : Nat → Nat) (m : Nat) : st2 x m 0 = st1 x m := by
  funext i
  simp only [st2, st1]
  by_cases h : i = 0
  · subst h; simp [pre]
  · rw [if_neg (by omega), if_neg h]
theorem st2_step (x : Nat → Nat) (m v : Nat) : upd (st2 x m v) (v + 1) (st2 x m v (v + 1) + st2 x m v v) = st2 x m (v + 1) := by
  funext i
  simp only [upd, st2]
  by_cases h1 : i = v + 1
  · subst h1
    rw [if_pos rfl, if_pos (Nat.le_refl _), if_neg (by omega), if_pos (Nat.le_refl _)]
    simp only [pre, Nat.add_sub_cancel]; omega
  · rw [if_neg h1]
    by_cases h2 : i ≤ v
    · rw [if_pos h2, if_pos (by omega)]
    · rw [if_neg h2, if_neg (by omega)]
/-- The third pass: filled. -/
def fi (x : Nat → Nat) (m K : Nat) : Nat → Nat := fun v => pre x m v + cnt x v K
theorem fi_zero (x : Nat → Nat) (m : Nat) : fi x m 0 = pre x m := by funext v; simp [fi, cnt]
theorem fi_step (x : Nat → Nat) (m K : Nat) : upd (fi x m K) (x K) (fi x m K (x K) + 1) = fi x m (K + 1) := by
  funext v
  simp only [upd, fi, cnt]
  by_cases h : v = x K
  · subst h; simp; omega
  · rw [if_neg h, if_neg (fun e => h e.symm)]; rfl
structure Fill (x y : Nat → Nat) (m K : Nat) (A : Nat → Nat) : Prop where
  from_ : ∀ v p, pre x m v ≤ p → p < fi x m K v → ∃ k, k < K ∧ x k = v ∧ A p = y k
  to_ : ∀ k, k < K → ∃ p, pre x m (x k) ≤ p ∧ p < fi x m K (x k) ∧ A p = y k
theorem Fill.start (x y : Nat → Nat) (m : Nat) (A : Nat → Nat) : Fill x y m 0 A := ⟨fun v p h1 h2 => by simp [fi, cnt] at h2; omega, fun k hk => by omega⟩
theorem Fill.step {x y : Nat → Nat} {m K : Nat} {A : Nat → Nat} (h : Fill x y m K A) (hK : K < m) : Fill x y m (K + 1) (upd A (fi x m K (x K)) (y K)) := by
  have hroom := cnt_room (x := x) hK
  -- the place belongs to no other key's stretch
  have hown : ∀ v p, pre x m v ≤ p → p < fi x m K v → p ≠ fi x m K (x K) := by
    intro v p h1 h2 e
    subst e
    simp only [fi] at h1 h2
    rcases Nat.lt_trichotomy v (x K) with hv | hv | hv
    · have h3 := pre_mono x m (v + 1) (x K) (by omega)
      have h4 := cnt_mono x v K m (by omega)
      simp only [pre] at h3; omega
    · subst hv; omega
    · have h3 := pre_mono x m (x K + 1) v (by omega)
      simp only [pre] at h3; omega
  have hfi : ∀ v, fi x m (K + 1) v = if v = x K then fi x m K v + 1 else fi x m K v := by
    intro v
    simp only [fi, cnt]
    by_cases hv : v = x K
    · rw [if_pos hv.symm, if_pos hv]; omega
    · rw [if_neg (fun e => hv e.symm), if_neg hv]; rfl
  constructor
  · intro v p h1 h2
    rw [hfi] at h2
    by_cases hp : p = fi x m K (x K)
    · have hv : v = x K := by
        by_cases hv : v = x K
        · exact hv
        · rw [if_neg hv] at h2; exact absurd hp (hown v p h1 h2)
      exact ⟨K, by omega, hv.symm, by simp [upd, hp]⟩
    · have h3 : p < fi x m K v := by
        by_cases hv : v = x K
        · rw [if_pos hv] at h2; subst hv; omega
        · rw [if_neg hv] at h2; exact h2
      obtain ⟨k, a, b, c⟩ := h.from_ v p h1 h3
      exact ⟨k, by omega, b, by simp [upd, hp, c]⟩
  · intro k hk
    by_cases hkK : k = K
    · subst hkK
      refine ⟨fi x m k (x k), by simp only [fi]; omega, ?_, by simp [upd]⟩
      rw [hfi, if_pos rfl]; omega
    · obtain ⟨p, a, b, c⟩ := h.to_ k (by omega)
      refine ⟨p, a, ?_, by rw [← c]; simp [upd, hown (x k) p a b]⟩
      rw [hfi]; split <;> omega

/-! ### Sorted, without repeats -/
theorem eq_of_rising : ∀ {a b : List Int}, a.Pairwise (· < ·) → b.Pairwise (· < ·) → (∀ z, z ∈ a ↔ z ∈ b) → a = b
  | [], [], _, _, _ => rfl
  | [], b :: bs, _, _, h => by have := (h b).2 (by simp); simp at this
  | a :: as', [], _, _, h => by have := (h a).1 (by simp); simp at this
  | a :: as', b :: bs, ha, hb, h => by
    obtain ⟨ha1, ha2⟩ := List.pairwise_cons.1 ha
    obtain ⟨hb1, hb2⟩ := List.pairwise_cons.1 hb
    have e : a = b := by
      rcases List.mem_cons.1 ((h a).1 (by simp)) with h1 | h1
      · exact h1
      · rcases List.mem_cons.1 ((h b).2 (by simp)) with h2 | h2
        · exact h2.symm
        · have := hb1 a h1; have := ha1 b h2; omega
    subst e
    rw [eq_of_rising ha2 hb2 (fun z => ?_)]
    constructor
    · intro hz
      rcases List.mem_cons.1 ((h z).1 (by simp [hz])) with h1 | h1
      · have := ha1 z hz; omega
      · exact h1
    · intro hz
      rcases List.mem_cons.1 ((h z).2 (by simp [hz])) with h1 | h1
      · have := hb1 z hz; omega
      · exact h1
theorem mem_compact (zs : List Int) (z : Int) : z ∈ Lib.compact zs ↔ z ∈ zs := by
  unfold Lib.compact Lib.compactUpTo
  simp only [List.mem_map, List.mem_filter, List.mem_range]
  constructor
  · rintro ⟨i, ⟨hi, _⟩, rfl⟩
    rw [getElem!_pos _ i (by simpa using hi)]
    simp
  · intro hz
    obtain ⟨i, hi, e⟩ := List.getElem_of_mem hz
    have key : ∀ j, j < zs.length → zs.toArray[j]! = z → ∃ i, (i < zs.length ∧ Lib.keeps zs.toArray i = true) ∧ zs.toArray[i]! = z := by
      intro j
      induction j with
      | zero => exact fun h1 h2 => ⟨0, ⟨h1, by simp [Lib.keeps]⟩, h2⟩
      | succ j ih =>
        intro h1 h2
        by_cases hk : zs.toArray[j + 1]! = zs.toArray[j]!
        · exact ih (by omega) (hk ▸ h2)
        · exact ⟨j + 1, ⟨h1, Lib.keeps_pos hk⟩, h2⟩
    refine key i hi ?_
    rw [getElem!_pos _ i (by simpa using hi)]
    simpa using e
theorem compact_rising (zs : List Int) (h : zs.Pairwise (· ≤ ·)) : (Lib.compact zs).Pairwise (· < ·) := by
  have hle : ∀ i j, i ≤ j → j < zs.length → zs.toArray[i]! ≤ zs.toArray[j]! := by
    intro i j hij hj
    rw [getElem!_pos _ i (by simp; omega), getElem!_pos _ j (by simpa using hj)]
    by_cases e : i = j
    · subst e; exact Int.le_refl _
    · have := List.pairwise_iff_getElem.1 h i j (by omega) hj (by omega)
      simpa using this
  unfold Lib.compact Lib.compactUpTo
  rw [List.pairwise_map]
  refine List.Pairwise.imp_of_mem ?_ (List.pairwise_lt_range.filter _)
  intro i j hi hj hij
  simp only [List.mem_filter, List.mem_range] at hi hj
  have hk := hj.2
  simp only [Lib.keeps, decide_eq_true_eq] at hk
  have h1 := hle i (j - 1) (by omega) (by omega)
  have h2 := hle (j - 1) j (by omega) hj.1
  have h3 : zs.toArray[j]! ≠ zs.toArray[j - 1]! := by
    rcases hk with hk | hk
    · omega
    · exact hk
  omega
/-- The numbers below n that ok holds for. -/
def sel (n : Nat) (ok : Nat → Bool) : List Nat := (List.range n).filter ok
theorem sel_rising (n : Nat) (ok : Nat → Bool) : (sel n ok).Pairwise (· < ·) := List.pairwise_lt_range.filter _
theorem mem_sel {n : Nat} {ok : Nat → Bool} {z : Nat} : z ∈ sel n ok ↔ z < n ∧ ok z = true := by simp [sel]
/-- What a sorted list without repeats of numbers below n is. -/
theorem compact_sel (zs : List Int) (n : Nat) (ok : Nat → Bool) (h : ∀ z : Int, z ∈ zs ↔ ∃ u : Nat, z = (u : Int) ∧ u < n ∧ ok u = true) :
    Lib.compact (zs.mergeSort fun x y => decide (x ≤ y)) = (sel n ok).map (fun u : Nat => (u : Int)) := by
  refine eq_of_rising (compact_rising _ ?_) ?_ (fun z => ?_)
  · have := List.pairwise_mergeSort (le := fun x y : Int => decide (x ≤ y)) (by intro a b c; simp; omega) (by intro a b; simp; omega) zs
    exact this.imp (by simp)
  · rw [List.pairwise_map]
    exact (sel_rising n ok).imp (by intro a b hab; omega)
  · rw [mem_compact, (List.mergeSort_perm zs _).mem_iff, h]
    simp only [List.mem_map, mem_sel]
    constructor
    · rintro ⟨u, e, h1, h2⟩; exact ⟨u, ⟨h1, h2⟩, e.symm⟩
    · rintro ⟨u, ⟨h1, h2⟩, e⟩; exact ⟨u, e.symm, h1, h2⟩
/-- Is there an end of key v and value u? -/
def joins (x y : Nat → Nat) (m v u : Nat) : Bool := (List.range m).any (fun k => x k == v && y k == u)
theorem joins_iff {x y : Nat → Nat} {m v u : Nat} : joins x y m v u = true ↔ ∃ k, k < m ∧ x k = v ∧ y k = u := by
  simp [joins, List.any_eq_true]
/-- The values at key v, in order, each once. -/
def nbr (n : Nat) (x y : Nat → Nat) (m v : Nat) : List Nat := sel n (joins x y m v)
theorem Fill.sel {x y : Nat → Nat} {n m : Nat} {A : Nat → Nat} (h : Fill x y m m A) (hy : ∀ k, k < m → y k < n) (v : Nat) :
    Lib.compact (((List.range (cnt x v m)).map (fun j => ((A (pre x m v + j) : Nat) : Int))).mergeSort fun x y => decide (x ≤ y)) = (nbr n x y m v).map (fun u : Nat => (u : Int)) := by
  refine compact_sel _ n _ (fun z => ?_)
  simp only [List.mem_map, List.mem_range, joins_iff]
  constructor
  · rintro ⟨j, hj, rfl⟩
    obtain ⟨k, a, b, c⟩ := h.from_ v (pre x m v + j) (by omega) (by simp only [fi]; omega)
    exact ⟨A (pre x m v + j), rfl, by rw [c]; exact hy k a, k, a, b, c.symm⟩
  · rintro ⟨u, rfl, hu, k, a, b, c⟩
    obtain ⟨p, p1, p2, p3⟩ := h.to_ k a
    rw [b] at p1 p2
    simp only [fi] at p2
    exact ⟨p - pre x m v, by omega, by rw [show pre x m v + (p - pre x m v) = p by omega, p3, c]⟩
theorem compact_len (zs : List Int) : (Lib.compact zs).length ≤ zs.length := by
  unfold Lib.compact Lib.compactUpTo
  simpa using List.length_filter_le (Lib.keeps zs.toArray) (List.range zs.length)
theorem Fill.len_le {x y : Nat → Nat} {n m : Nat} {A : Nat → Nat} (h : Fill x y m m A) (hy : ∀ k, k < m → y k < n) (v : Nat) : (nbr n x y m v).length ≤ cnt x v m := by
  have h1 := congrArg List.length (h.sel hy v)
  rw [List.length_map] at h1
  rw [← h1]
  refine Nat.le_trans (compact_len _) ?_
  rw [List.length_mergeSort]; simp
end Go.Proofs.Qxb6616383a.Plain
