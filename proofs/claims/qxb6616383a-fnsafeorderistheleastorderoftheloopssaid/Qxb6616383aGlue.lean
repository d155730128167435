/-
  Two lists of edges with the same ends: one table of names, one order of groups.
-/
import Derived.Test.Qxb6616383aZz
namespace Go.Proofs.Qxb6616383a
open Plain
theorem Made.covers {m : Nat} {dep dpt : Nat → ByteArray} {n : Nat} {N : Nat → ByteArray} {D : Nat → List Nat} (h : Made m dep dpt n N D) (s : ByteArray) : (∃ i, i < n ∧ N i = s) ↔ ∃ k, k < m ∧ (dep k = s ∨ dpt k = s) := by
  obtain ⟨_, h2, x, y, h3, _⟩ := h
  constructor
  · rintro ⟨i, hi, rfl⟩
    obtain ⟨k, hk, e⟩ := h2 i hi
    exact ⟨k, hk, e.imp Eq.symm Eq.symm⟩
  · rintro ⟨k, hk, e⟩
    obtain ⟨a, b, c, d⟩ := h3 k hk
    rcases e with e | e
    · exact ⟨x k, a, b.trans e⟩
    · exact ⟨y k, c, d.trans e⟩
/-- An edge of the lists, by its names. -/
theorem Made.edge {m : Nat} {dep dpt : Nat → ByteArray} {n : Nat} {N : Nat → ByteArray} {D : Nat → List Nat} (h : Made m dep dpt n N D) {v u : Nat} (hv : v < n) (hu : u < n) : u ∈ D v ↔ ∃ k, k < m ∧ dep k = N v ∧ dpt k = N u := by
  obtain ⟨h1, _, x, y, h3, rfl⟩ := h
  unfold nbr
  rw [mem_sel, joins_iff]
  constructor
  · rintro ⟨_, k, hk, rfl, rfl⟩
    obtain ⟨_, b, _, d⟩ := h3 k hk
    exact ⟨k, hk, b.symm, d.symm⟩
  · rintro ⟨k, hk, e1, e2⟩
    obtain ⟨a, b, c, d⟩ := h3 k hk
    exact ⟨hu, k, hk, h1.inj a hv (b.trans e1), h1.inj c hu (d.trans e2)⟩
theorem Made.dom {m : Nat} {dep dpt : Nat → ByteArray} {n : Nat} {N : Nat → ByteArray} {D : Nat → List Nat} (h : Made m dep dpt n N D) {v u : Nat} (hm : u ∈ D v) : v < n ∧ u < n := by
  obtain ⟨_, _, x, y, h3, rfl⟩ := h
  unfold nbr at hm
  rw [mem_sel, joins_iff] at hm
  obtain ⟨hu, k, hk, rfl, _⟩ := hm
  exact ⟨(h3 k hk).1, hu⟩
theorem Reach.mono' {D D' : Nat → List Nat} (h : ∀ z x, x ∈ D z → Plain.Reach D' z x) {u v : Nat} (hr : Plain.Reach D u v) : Plain.Reach D' u v :=
  Plain.Reach.shut (fun z => Plain.Reach D' u z) (fun z hz x hx => hz.trans (h z x hx)) hr (Plain.Reach.refl _ _)
theorem eq_of_mem {a b : List Nat} (ha : a.Pairwise (· < ·)) (hb : b.Pairwise (· < ·)) (h : ∀ z, z ∈ a ↔ z ∈ b) : a = b := by
  have key := eq_of_rising (a := a.map (fun u : Nat => (u : Int))) (b := b.map (fun u : Nat => (u : Int))) (by rw [List.pairwise_map]; exact ha.imp (by intro x y; omega)) (by rw [List.pairwise_map]; exact hb.imp (by intro x y; omega)) (fun z => by
    simp only [List.mem_map]
    constructor
    · rintro ⟨u, hu, rfl⟩; exact ⟨u, (h u).1 hu, rfl⟩
    · rintro ⟨u, hu, rfl⟩; exact ⟨u, (h u).2 hu, rfl⟩)
  have k2 := congrArg (List.map Int.toNat) key
  have k3 : ∀ l : List Nat, (l.map (fun u : Nat => (u : Int))).map Int.toNat = l := fun l => by
    rw [List.map_map]
    have e : Int.toNat ∘ (fun u : Nat => (u : Int)) = id := by funext u; simp
    rw [e, List.map_id]
  rw [k3, k3] at k2
  exact k2
theorem glue {m m' n n' G G' : Nat} {dep dpt dep' dpt' N N' : Nat → ByteArray} {D D' : Nat → List Nat} {grp grp' : Nat → Nat} {kp : Nat → Bool} (h : Made m dep dpt n N D) (h' : Made m' dep' dpt' n' N' D') (hg : Gr n D grp G) (hg' : Gr n' D' grp' G')
    (e1 : ∀ k, k < m → ∃ k', k' < m' ∧ dep' k' = dep k ∧ dpt' k' = dpt k) (e2 : ∀ k', k' < m' → (∃ k, k < m ∧ dep k = dep' k' ∧ dpt k = dpt' k') ∨ (dep' k' = dpt' k' ∧ ∃ k, k < m ∧ dep k = dep' k')) :
    n = n' ∧ (∀ i, i < n → N i = N' i) ∧ G = G' ∧ grp = grp' ∧ order D grp kp n G = order D' grp' kp n' G' := by
  have hc : ∀ s, (∃ k, k < m ∧ (dep k = s ∨ dpt k = s)) ↔ ∃ k, k < m' ∧ (dep' k = s ∨ dpt' k = s) := fun s => by
    constructor
    · rintro ⟨k, hk, e⟩
      obtain ⟨k', hk', a, b⟩ := e1 k hk
      exact ⟨k', hk', by rw [a, b]; exact e⟩
    · rintro ⟨k', hk', e⟩
      rcases e2 k' hk' with ⟨k, hk, a, b⟩ | ⟨a, k, hk, b⟩
      · exact ⟨k, hk, by rw [a, b]; exact e⟩
      · refine ⟨k, hk, Or.inl ?_⟩
        rcases e with e | e
        · rw [b, e]
        · rw [b, a, e]
  obtain ⟨rfl, hN⟩ := Rises.unique h.1 h'.1 (fun i hi => (h'.covers _).2 ((hc _).1 ((h.covers _).1 ⟨i, hi, rfl⟩))) (fun j hj => (h.covers _).2 ((hc _).2 ((h'.covers _).1 ⟨j, hj, rfl⟩)))
  have s1 : ∀ v u, u ∈ D v → u ∈ D' v := fun v u hu => by
    obtain ⟨hv, hu'⟩ := h.dom hu
    obtain ⟨k, hk, a, b⟩ := (h.edge hv hu').1 hu
    obtain ⟨k', hk', c, d⟩ := e1 k hk
    exact (h'.edge hv hu').2 ⟨k', hk', by rw [c, a, hN v hv], by rw [d, b, hN u hu']⟩
  have s2 : ∀ v u, u ∈ D' v → u ∈ D v ∨ u = v := fun v u hu => by
    obtain ⟨hv, hu'⟩ := h'.dom hu
    obtain ⟨k', hk', a, b⟩ := (h'.edge hv hu').1 hu
    rcases e2 k' hk' with ⟨k, hk, c, d⟩ | ⟨c, _⟩
    · exact Or.inl ((h.edge hv hu').2 ⟨k, hk, by rw [c, a, hN v hv], by rw [d, b, hN u hu']⟩)
    · exact Or.inr (h'.1.inj hu' hv (by rw [← b, ← c, a]))
  have hr : ∀ u v, u < n → v < n → (Plain.Reach D u v ↔ Plain.Reach D' u v) := fun u v _ _ =>
    ⟨Reach.mono' (fun z x hx => Plain.Reach.step (s1 z x hx)), Reach.mono' (fun z x hx => by
      rcases s2 z x hx with h3 | h3
      · exact Plain.Reach.step h3
      · rw [h3]; exact Plain.Reach.refl _ _)⟩
  obtain ⟨rfl, rfl⟩ := hg.unique hg' hr
  refine ⟨rfl, hN, rfl, rfl, order_congr (fun v => ?_)⟩
  have rs : (D v).Pairwise (· < ·) := by obtain ⟨_, _, x, y, _, rfl⟩ := h; exact sel_rising _ _
  have rs' : (D' v).Pairwise (· < ·) := by obtain ⟨_, _, x, y, _, rfl⟩ := h'; exact sel_rising _ _
  refine eq_of_mem (rs.filter _) (rs'.filter _) (fun z => ?_)
  simp only [List.mem_filter, bne_iff_ne, ne_eq]
  constructor
  · rintro ⟨a, b⟩; exact ⟨s1 v z a, b⟩
  · rintro ⟨a, b⟩
    rcases s2 v z a with h3 | h3
    · exact ⟨h3, b⟩
    · rw [h3] at b; exact absurd rfl b
end Go.Proofs.Qxb6616383a
