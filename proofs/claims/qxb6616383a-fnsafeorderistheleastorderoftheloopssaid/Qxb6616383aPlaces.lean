/-
  The places of the names and the latest dependencies (plain).
-/
import Derived.Test.Qxb6616383aFacts
namespace Go.Proofs.Qxb6616383a
namespace Plain
/-- p v is the place of v's group, among the groups before i and the first j of group i; -1 where v is none of theirs. -/
def Pos (n : Nat) (M : Nat → List Nat) (i j : Nat) (p : Nat → Int) : Prop :=
  ∀ v, v < n → (∀ i' : Nat, i' < i → v ∈ M i' → p v = (i' : Int)) ∧ (v ∈ (M i).take j → p v = (i : Int)) ∧ ((∀ i', i' < i → v ∉ M i') → v ∉ (M i).take j → p v = -1)
theorem Pos.zero (n : Nat) (M : Nat → List Nat) : Pos n M 0 0 (fun _ => -1) := fun v _ => ⟨fun i' h => by omega, fun h => by simp at h, fun _ _ => rfl⟩
theorem Pos.zero' {n : Nat} {M : Nat → List Nat} {p : Nat → Int} (h : ∀ v, v < n → p v = -1) : Pos n M 0 0 p := fun v hv => ⟨fun i' h => by omega, fun h => by simp at h, fun _ _ => h v hv⟩
theorem take_mem {l : List Nat} {j x : Nat} (hj : j < l.length) : x ∈ l.take (j + 1) ↔ x ∈ l.take j ∨ x = l.getD j 0 := by
  rw [List.getD_eq_getElem?_getD, List.getElem?_eq_getElem hj, Option.getD_some, ← List.take_append_getElem hj]
  simp only [List.mem_append, List.mem_singleton]
theorem Pos.step {n ln : Nat} {M : Nat → List Nat} (hp : Parts n ln M) {i j : Nat} {p : Nat → Int} (h : Pos n M i j p) (hi : i < ln) (hj : j < (M i).length) :
    (M i).getD j 0 < n ∧ p ((M i).getD j 0) = -1 ∧ Pos n M i (j + 1) (upd p ((M i).getD j 0) (i : Int)) := by
  have hm : (M i).getD j 0 ∈ M i := getD_mem hj
  have hl := hp.lt i hi _ hm
  have hno : ∀ i', i' < i → (M i).getD j 0 ∉ M i' := fun i' h1 h2 => by
    have := hp.apart i' i (by omega) hi _ h2 hm
    omega
  refine ⟨hl, (h _ hl).2.2 hno ?_, fun v hv => ⟨fun i' h1 h2 => ?_, fun h1 => ?_, fun h1 h2 => ?_⟩⟩
  · intro h1
    obtain ⟨k, hk, e⟩ := List.mem_iff_getElem.1 h1
    rw [List.length_take] at hk
    rw [List.getElem_take, List.getD_eq_getElem?_getD, List.getElem?_eq_getElem hj, Option.getD_some] at e
    have h3 := List.pairwise_iff_getElem.1 (hp.up i hi) k j (by omega) hj (by omega)
    omega
  · by_cases e : v = (M i).getD j 0
    · rw [e] at h2; exact absurd h2 (hno i' h1)
    · rw [upd_other _ _ _ _ e]; exact (h v hv).1 i' h1 h2
  · by_cases e : v = (M i).getD j 0
    · rw [e]; exact upd_same _ _ _
    · rw [upd_other _ _ _ _ e]
      rcases (take_mem hj).1 h1 with h1 | h1
      · exact (h v hv).2.1 h1
      · exact absurd h1 e
  · have e : v ≠ (M i).getD j 0 := fun e => h2 ((take_mem hj).2 (Or.inr e))
    rw [upd_other _ _ _ _ e]
    exact (h v hv).2.2 h1 (fun h3 => h2 ((take_mem hj).2 (Or.inl h3)))
theorem Pos.next {n : Nat} {M : Nat → List Nat} {i : Nat} {p : Nat → Int} (h : Pos n M i (M i).length p) : Pos n M (i + 1) 0 p := by
  intro v hv
  have h' := h v hv
  rw [List.take_length] at h'
  refine ⟨fun i' h1 h2 => ?_, fun h1 => by simp at h1, fun h1 _ => h'.2.2 (fun i' hi' => h1 i' (by omega)) (h1 i (by omega))⟩
  by_cases e : i' = i
  · subst e; exact h'.2.1 h2
  · exact h'.1 i' (by omega) h2
theorem Pos.off {n ln : Nat} {M : Nat → List Nat} {p : Nat → Int} (h : Pos n M ln 0 p) {v : Nat} (hv : v < n) (hn : ∀ i, i < ln → v ∉ M i) : p v = -1 := (h v hv).2.2 hn (by simp)
/-- lt j is no less than the place of any kept group that group j hangs on by one of the first k edges. -/
def Lat (ln k : Nat) (M : Nat → List Nat) (x y cp : Nat → Nat) (kp : Nat → Bool) (lt : Nat → Int) : Prop :=
  (∀ j, j < ln → -1 ≤ lt j ∧ lt j < (ln : Int)) ∧ ∀ k', k' < k → kp (x k') = true → kp (y k') = true → cp (x k') ≠ cp (y k') → ∀ i j : Nat, i < ln → j < ln → x k' ∈ M i → y k' ∈ M j → (i : Int) ≤ lt j
theorem Lat.zero (ln : Nat) (M : Nat → List Nat) (x y cp : Nat → Nat) (kp : Nat → Bool) : Lat ln 0 M x y cp kp (fun _ => -1) := ⟨fun j hj => ⟨Int.le_refl _, by show (-1 : Int) < _; omega⟩, fun k' h => by omega⟩
theorem Lat.zero' {ln : Nat} {M : Nat → List Nat} {x y cp : Nat → Nat} {kp : Nat → Bool} {lt : Nat → Int} (h : ∀ j, j < ln → lt j = -1) : Lat ln 0 M x y cp kp lt := ⟨fun j hj => by rw [h j hj]; omega, fun k' h => by omega⟩
theorem Lat.skip {ln k : Nat} {M : Nat → List Nat} {x y cp : Nat → Nat} {kp : Nat → Bool} {lt : Nat → Int} (h : Lat ln k M x y cp kp lt) (hn : ¬ (kp (x k) = true ∧ kp (y k) = true ∧ cp (x k) ≠ cp (y k))) : Lat ln (k + 1) M x y cp kp lt := by
  refine ⟨h.1, fun k' hk h1 h2 h3 => ?_⟩
  by_cases e : k' = k
  · subst e; exact absurd ⟨h1, h2, h3⟩ hn
  · exact h.2 k' (by omega) h1 h2 h3
theorem Lat.pass {n ln k : Nat} {M : Nat → List Nat} {x y cp : Nat → Nat} {kp : Nat → Bool} {lt : Nat → Int} (hp : Parts n ln M) (h : Lat ln k M x y cp kp lt) {i j : Nat} (hi : i < ln) (hj : j < ln) (hx : x k ∈ M i) (hy : y k ∈ M j) (hle : (i : Int) ≤ lt j) : Lat ln (k + 1) M x y cp kp lt := by
  refine ⟨h.1, fun k' hk h1 h2 h3 a b ha hb hxa hyb => ?_⟩
  by_cases e : k' = k
  · subst e
    rw [hp.apart a i ha hi _ hxa hx, hp.apart b j hb hj _ hyb hy]
    exact hle
  · exact h.2 k' (by omega) h1 h2 h3 a b ha hb hxa hyb
theorem Lat.put {n ln k : Nat} {M : Nat → List Nat} {x y cp : Nat → Nat} {kp : Nat → Bool} {lt : Nat → Int} (hp : Parts n ln M) (h : Lat ln k M x y cp kp lt) {i j : Nat} (hi : i < ln) (hj : j < ln) (hx : x k ∈ M i) (hy : y k ∈ M j) (hle : lt j < (i : Int)) : Lat ln (k + 1) M x y cp kp (upd lt j (i : Int)) := by
  refine ⟨fun j' hj' => ?_, fun k' hk h1 h2 h3 a b ha hb hxa hyb => ?_⟩
  · simp only [upd]
    split
    · exact ⟨by omega, by omega⟩
    · exact h.1 j' hj'
  · by_cases e : k' = k
    · subst e
      rw [hp.apart a i ha hi _ hxa hx, hp.apart b j hb hj _ hyb hy, upd_same]
      exact Int.le_refl _
    · have := h.2 k' (by omega) h1 h2 h3 a b ha hb hxa hyb
      simp only [upd]
      split
      · rename_i eb
        rw [eb] at this
        omega
      · exact this
theorem Lat.done {n m ln : Nat} {M : Nat → List Nat} {x y cp : Nat → Nat} {kp : Nat → Bool} {lt : Nat → Int} (hf : Facts3 n m ln M x y cp kp) (h : Lat ln m M x y cp kp lt) (hx : ∀ k, k < m → x k < n) {i j : Nat} (hj : j < ln) (hij : i < j) (hi : lt j < (i : Int)) : (M i).getD 0 0 ≤ (M j).getD 0 0 := by
  refine hf.least i j hij hj (fun k hk h1 h2 h3 hy => ?_)
  obtain ⟨i', hi', hm⟩ := hf.all (x k) (hx k hk) h1
  have := h.2 k hk h1 h2 h3 i' j hi' hj hm hy
  exact ⟨i', by omega, hm⟩
end Plain
end Go.Proofs.Qxb6616383a
