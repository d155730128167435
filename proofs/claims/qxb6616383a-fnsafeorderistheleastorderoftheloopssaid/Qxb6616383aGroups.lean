/-
  Groups numbered in the order they first come; the members of each. No Go in sight.
-/
import Derived.Test.Qxb6616383aCount
namespace Go.Proofs.Qxb6616383a.Plain

/-- The first v names have been numbered: sl groups so far, num the number and 1 by component. -/
structure GI (cmp : Nat → Nat) (v : Nat) (grp : Nat → Nat) (sl : Nat) (num : Nat → Nat) : Prop where
  in_ : ∀ u, u < v → num (cmp u) = grp u + 1
  out : ∀ c, (∀ u, u < v → cmp u ≠ c) → num c = 0
  lt : ∀ u, u < v → grp u < sl
  onto : ∀ g, g < sl → ∃ u, u < v ∧ grp u = g ∧ ∀ u', u' < u → grp u' < g
  inj : ∀ u u', u < v → u' < v → grp u = grp u' → cmp u = cmp u'
  le : sl ≤ v
theorem GI.start (cmp grp : Nat → Nat) : GI cmp 0 grp 0 (fun _ => 0) :=
  ⟨fun u h => by omega, fun _ _ => rfl, fun u h => by omega, fun g h => by omega, fun u _ h => by omega, Nat.le_refl _⟩
section
variable {cmp : Nat → Nat} {v : Nat} {grp : Nat → Nat} {sl : Nat} {num : Nat → Nat}
/-- A name of a group numbered before. -/
theorem GI.old (h : GI cmp v grp sl num) {g : Nat} (hg : num (cmp v) = g + 1) : GI cmp (v + 1) (upd grp v g) sl num ∧ g < sl := by
  have hex : ∃ u, u < v ∧ cmp u = cmp v := by
    apply Classical.byContradiction
    intro hc
    have := h.out (cmp v) (fun u hu e => hc ⟨u, hu, e⟩)
    omega
  obtain ⟨u0, hu0, e0⟩ := hex
  have hg0 : grp u0 = g := by have := h.in_ u0 hu0; rw [e0] at this; omega
  refine ⟨⟨fun u hu => ?_, fun c hc => h.out c (fun u hu => hc u (by omega)), fun u hu => ?_, fun g' hg' => ?_, fun u u' hu hu' e => ?_, by have := h.le; omega⟩, by have := h.lt u0 hu0; omega⟩
  · simp only [upd]
    by_cases e : u = v
    · rw [if_pos e, e, hg]
    · rw [if_neg e]; exact h.in_ u (by omega)
  · simp only [upd]
    by_cases e : u = v
    · rw [if_pos e, ← hg0]; exact h.lt u0 hu0
    · rw [if_neg e]; exact h.lt u (by omega)
  · obtain ⟨u, a, b, c⟩ := h.onto g' hg'
    refine ⟨u, by omega, by rw [upd_other _ _ _ _ (by omega)]; exact b, fun u' hu' => ?_⟩
    rw [upd_other _ _ _ _ (by omega)]; exact c u' hu'
  · simp only [upd] at e
    by_cases e1 : u = v
    · by_cases e2 : u' = v
      · rw [e1, e2]
      · rw [if_pos e1, if_neg e2] at e
        rw [e1, ← e0]
        exact h.inj u0 u' hu0 (by omega) (by omega)
    · by_cases e2 : u' = v
      · rw [if_neg e1, if_pos e2] at e
        rw [e2, ← e0]
        exact h.inj u u0 (by omega) hu0 (by omega)
      · rw [if_neg e1, if_neg e2] at e
        exact h.inj u u' (by omega) (by omega) e
/-- The first name of its group. -/
theorem GI.new (h : GI cmp v grp sl num) (h0 : num (cmp v) = 0) : GI cmp (v + 1) (upd grp v sl) (sl + 1) (upd num (cmp v) (sl + 1)) := by
  have hne : ∀ u, u < v → cmp u ≠ cmp v := fun u hu e => by have := h.in_ u hu; rw [e] at this; omega
  refine ⟨fun u hu => ?_, fun c hc => ?_, fun u hu => ?_, fun g' hg' => ?_, fun u u' hu hu' e => ?_, by have := h.le; omega⟩
  · by_cases e : u = v
    · rw [e, upd_same, upd_same]
    · rw [upd_other _ _ _ _ (hne u (by omega)), upd_other _ _ _ _ e]; exact h.in_ u (by omega)
  · rw [upd_other _ _ _ _ (fun e => hc v (by omega) e.symm)]
    exact h.out c (fun u hu => hc u (by omega))
  · simp only [upd]
    split
    · omega
    · have := h.lt u (by omega); omega
  · by_cases e : g' = sl
    · refine ⟨v, by omega, by rw [upd_same, e], fun u' hu' => ?_⟩
      rw [upd_other _ _ _ _ (by omega), e]; exact h.lt u' hu'
    · obtain ⟨u, a, b, c⟩ := h.onto g' (by omega)
      refine ⟨u, by omega, by rw [upd_other _ _ _ _ (by omega)]; exact b, fun u' hu' => ?_⟩
      rw [upd_other _ _ _ _ (by omega)]; exact c u' hu'
  · simp only [upd] at e
    by_cases e1 : u = v
    · by_cases e2 : u' = v
      · rw [e1, e2]
      · rw [if_pos e1, if_neg e2] at e
        have := h.lt u' (by omega); omega
    · by_cases e2 : u' = v
      · rw [if_neg e1, if_pos e2] at e
        have := h.lt u (by omega); omega
      · rw [if_neg e1, if_neg e2] at e
        exact h.inj u u' (by omega) (by omega) e
end
/-- The groups of the graph D over n names. -/
structure Gr (n : Nat) (D : Nat → List Nat) (grp : Nat → Nat) (G : Nat) : Prop where
  lt : ∀ u, u < n → grp u < G
  onto : ∀ g, g < G → ∃ u, u < n ∧ grp u = g ∧ ∀ u', u' < u → grp u' < g
  same : ∀ u v, u < n → v < n → (grp u = grp v ↔ Reach D u v ∧ Reach D v u)
  rank : ∃ rk : Nat → Nat, (∀ u v, u < n → v < n → (grp u = grp v ↔ rk u = rk v)) ∧ ∀ u x, u < n → x ∈ D u → rk x ≤ rk u
  le : G ≤ n
  off : ∀ u, n ≤ u → grp u = 0
theorem GI.done {n nc : Nat} {D : Nat → List Nat} {cmp grp num : Nat → Nat} {G : Nat} (h : GI cmp n grp G num) (h1 : ∀ u v, u < n → v < n → (cmp u = cmp v ↔ Reach D u v ∧ Reach D v u)) (h2 : ∀ u, u < n → cmp u < nc ∧ ∀ x, x ∈ D u → cmp x ≤ cmp u) (h3 : ∀ u, n ≤ u → grp u = 0) : Gr n D grp G := by
  have key : ∀ u v, u < n → v < n → (grp u = grp v ↔ cmp u = cmp v) := fun u v hu hv => ⟨h.inj u v hu hv, fun e => by
    have a := h.in_ u hu
    have b := h.in_ v hv
    rw [e] at a; omega⟩
  exact ⟨h.lt, h.onto, fun u v hu hv => (key u v hu hv).trans (h1 u v hu hv), ⟨cmp, key, fun u x hu hm => (h2 u hu).2 x hm⟩, h.le, h3⟩
/-- Before the first name of a group come just the groups before it. -/
theorem Gr.first {n G : Nat} {D : Nat → List Nat} {grp : Nat → Nat} (h : Gr n D grp G) {v : Nat} (hv : v < n) (hf : ∀ u, u < v → grp u ≠ grp v) (g : Nat) : g < grp v ↔ ∃ u, u < v ∧ grp u = g := by
  have hb : ∀ u', u' < v → grp u' < grp v := by
    obtain ⟨u, a, b, c⟩ := h.onto (grp v) (h.lt v hv)
    rcases Nat.lt_trichotomy u v with h1 | h1 | h1
    · exact absurd b (hf u h1)
    · subst h1; exact c
    · have := c v h1; omega
  constructor
  · intro hg
    obtain ⟨u, a, b, c⟩ := h.onto g (by have := h.lt v hv; omega)
    refine ⟨u, ?_, b⟩
    rcases Nat.lt_trichotomy u v with h1 | h1 | h1
    · exact h1
    · subst h1; omega
    · have := c v h1; omega
  · rintro ⟨u, hu, rfl⟩
    exact hb u hu
theorem Gr.unique {n G G' : Nat} {D D' : Nat → List Nat} {grp grp' : Nat → Nat} (h : Gr n D grp G) (h' : Gr n D' grp' G') (hr : ∀ u v, u < n → v < n → (Reach D u v ↔ Reach D' u v)) : G = G' ∧ grp = grp' := by
  have same : ∀ u v, u < n → v < n → (grp u = grp v ↔ grp' u = grp' v) := fun u v hu hv => by
    rw [h.same u v hu hv, h'.same u v hu hv, hr u v hu hv, hr v u hv hu]
  have key : ∀ u, u < n → grp u = grp' u := by
    intro u
    induction u using Nat.strongRecOn with
    | ind u ih =>
      intro hu
      by_cases hf : ∃ x, x < u ∧ grp x = grp u
      · obtain ⟨x, hx, e⟩ := hf
        rw [← e, ih x hx (by omega)]
        exact (same x u (by omega) hu).1 e
      · have f1 : ∀ x, x < u → grp x ≠ grp u := fun x hx e => hf ⟨x, hx, e⟩
        have f2 : ∀ x, x < u → grp' x ≠ grp' u := fun x hx e => f1 x hx ((same x u (by omega) hu).2 e)
        have k1 := h.first hu f1
        have k2 := h'.first hu f2
        have k3 : ∀ g, g < grp u ↔ g < grp' u := fun g => by
          rw [k1, k2]
          constructor
          · rintro ⟨x, hx, e⟩; exact ⟨x, hx, by rw [← ih x hx (by omega)]; exact e⟩
          · rintro ⟨x, hx, e⟩; exact ⟨x, hx, by rw [ih x hx (by omega)]; exact e⟩
        have a := (k3 (grp u)).2
        have b := (k3 (grp' u)).1
        omega
  refine ⟨?_, by
    funext u
    by_cases hu : u < n
    · exact key u hu
    · rw [h.off u (by omega), h'.off u (by omega)]⟩
  have a : ∀ g, g < G ↔ g < G' := fun g => by
    constructor
    · intro hg
      obtain ⟨u, hu, rfl, _⟩ := h.onto g hg
      rw [key u hu]; exact h'.lt u hu
    · intro hg
      obtain ⟨u, hu, rfl, _⟩ := h'.onto g hg
      rw [← key u hu]; exact h.lt u hu
  have := (a G).2
  have := (a G').1
  omega
theorem cnt_congr {x y : Nat → Nat} {v : Nat} : ∀ K, (∀ k, k < K → x k = y k) → cnt x v K = cnt y v K := by
  intro K
  induction K with
  | zero => intro _; rfl
  | succ K ih => intro h; simp only [cnt]; rw [ih (fun k hk => h k (by omega)), h K (by omega)]
theorem cnt_upd (x : Nat → Nat) (g v z : Nat) : cnt (upd x v z) g (v + 1) = cnt x g v + (if z = g then 1 else 0) := by
  simp only [cnt]
  rw [cnt_congr v (fun k hk => upd_other x v z k (by omega)), upd_same]
/-- The names of group g among the first v. -/
def memb (grp : Nat → Nat) (v g : Nat) : List Nat := sel v (fun u => grp u == g)
theorem memb_succ (grp : Nat → Nat) (v g : Nat) : memb grp (v + 1) g = memb grp v g ++ (if grp v = g then [v] else []) := by
  simp only [memb, sel, List.range_succ, List.filter_append]
  congr 1
  by_cases h : grp v = g
  · simp [h]
  · simp [h]
theorem memb_len (grp : Nat → Nat) (g : Nat) : ∀ v, (memb grp v g).length = cnt grp g v := by
  intro v
  induction v with
  | zero => rfl
  | succ v ih =>
    rw [memb_succ, List.length_append, ih]
    simp only [cnt]
    split <;> simp
theorem memb_congr {x y : Nat → Nat} {v : Nat} (h : ∀ k, k < v → x k = y k) (g : Nat) : memb x v g = memb y v g := by
  unfold memb sel
  apply List.filter_congr
  intro u hu
  rw [h u (by simpa using hu)]
theorem mem_memb {grp : Nat → Nat} {v g u : Nat} : u ∈ memb grp v g ↔ u < v ∧ grp u = g := by simp [memb, mem_sel]
/-- The shared row after the first v names. -/
structure MI (grp : Nat → Nat) (n v : Nat) (A : Nat → Nat) : Prop where
  at_ : ∀ g j, j < cnt grp g v → A (pre grp n g + j) = (memb grp v g).getD j 0
theorem MI.start (grp : Nat → Nat) (n : Nat) (A : Nat → Nat) : MI grp n 0 A := ⟨fun g j h => by simp [cnt] at h⟩
/-- The stretches of two groups lie apart. -/
theorem pre_apart {grp : Nat → Nat} {n g h i j : Nat} (hi : i < cnt grp g n) (hj : j < cnt grp h n) (e : pre grp n g + i = pre grp n h + j) : g = h ∧ i = j := by
  rcases Nat.lt_trichotomy g h with h1 | h1 | h1
  · have := pre_mono grp n (g + 1) h h1
    simp only [pre] at this; omega
  · subst h1; exact ⟨rfl, by omega⟩
  · have := pre_mono grp n (h + 1) g h1
    simp only [pre] at this; omega
theorem MI.step {grp : Nat → Nat} {n v : Nat} {A : Nat → Nat} (h : MI grp n v A) (hv : v < n) : MI grp n (v + 1) (upd A (pre grp n (grp v) + cnt grp (grp v) v) v) := by
  refine ⟨fun g j hj => ?_⟩
  have hroom := cnt_room (x := grp) hv
  have hm := cnt_mono grp g (v + 1) n hv
  rw [memb_succ]
  by_cases hp : pre grp n g + j = pre grp n (grp v) + cnt grp (grp v) v
  · obtain ⟨e1, e2⟩ := pre_apart (by omega) (by omega) hp
    subst e1
    rw [hp, upd_same, if_pos rfl, List.getD_eq_getElem?_getD, List.getElem?_append_right (by rw [memb_len]; omega), memb_len, e2]
    simp
  · rw [upd_other _ _ _ _ hp]
    have hj' : j < cnt grp g v := by
      simp only [cnt] at hj
      by_cases e : grp v = g
      · subst e
        rw [if_pos rfl] at hj
        by_cases e3 : j = cnt grp (grp v) v
        · subst e3; exact absurd rfl hp
        · omega
      · rw [if_neg e] at hj; omega
    rw [h.at_ g j hj', List.getD_eq_getElem?_getD, List.getD_eq_getElem?_getD, List.getElem?_append_left (by rw [memb_len]; exact hj')]
theorem cnt_pos {grp : Nat → Nat} {n u : Nat} (hu : u < n) : 1 ≤ cnt grp (grp u) n := by
  have := cnt_room (x := grp) hu
  omega
end Go.Proofs.Qxb6616383a.Plain
