/-
  The order of the groups (plain): at each place the least group among those whose kept dependencies have all come; every kept group comes.
-/
import Derived.Test.Qxb6616383aOrder
namespace Go.Proofs.Qxb6616383a
namespace Plain
/-- What the kept names are joined to. -/
def Dk (D : Nat → List Nat) (keep : Nat → Bool) : Nat → List Nat := fun v => if keep v = true then D v else []
theorem wts_dk {D : Nat → List Nat} {grp : Nat → Nat} {keep : Nat → Bool} (g : Nat) : ∀ v, wts D grp keep v g = (tot (Dk D keep) grp (fun _ => 0) g v : Nat) := by
  intro v
  induction v with
  | zero => rfl
  | succ v ih =>
    simp only [wts, tot]
    rw [if_pos trivial]
    unfold ind
    by_cases hk : keep v = true
    · rw [if_pos hk, show Dk D keep v = D v from if_pos hk, wstep_wt, ih]
      omega
    · rw [if_neg hk, show Dk D keep v = [] from if_neg hk, ih]
      simp
/-- What the passing of the edges out of c makes ready. -/
theorem est_ready {grp : Nat → Nat} {keep : Nat → Bool} {kg : Nat → Bool} {c g : Nat} (hg : g ≠ c) : ∀ (l : List Nat) (s : (Nat → Int) × (Nat → Nat)), (∀ x, x ∈ l → keep x = kg (grp x)) →
    ((l.foldl (est grp keep c) s).2 g ≠ 0 ↔ s.2 g ≠ 0 ∨ (kg g = true ∧ 1 ≤ s.1 g ∧ s.1 g ≤ ((l.filter (fun x => grp x == g)).length : Nat))) := by
  intro l
  induction l with
  | nil =>
    intro s _
    simp only [List.foldl_nil, List.filter_nil, List.length_nil]
    constructor
    · exact Or.inl
    · rintro (h | ⟨_, h1, h2⟩)
      · exact h
      · omega
  | cons x l ih =>
    intro s hk
    rw [List.foldl_cons, ih _ (fun y hy => hk y (List.mem_cons_of_mem _ hy))]
    have hkx := hk x List.mem_cons_self
    by_cases hgx : grp x = g
    · have hc : grp x ≠ c := by rw [hgx]; exact hg
      rw [List.filter_cons, if_pos (by simp [hgx]), List.length_cons]
      unfold est
      rw [if_neg hc]
      simp only [hgx, upd_same]
      rw [hgx] at hkx
      by_cases h0 : s.1 g - 1 = 0 ∧ keep x = true
      · rw [if_pos h0, upd_same]
        constructor
        · intro _
          exact Or.inr ⟨by rw [← hkx]; exact h0.2, by omega, by omega⟩
        · intro _
          exact Or.inl (by omega)
      · rw [if_neg h0]
        constructor
        · rintro (h | ⟨h1, h2, h3⟩)
          · exact Or.inl h
          · exact Or.inr ⟨h1, by omega, by omega⟩
        · rintro (h | ⟨h1, h2, h3⟩)
          · exact Or.inl h
          · refine Or.inr ⟨h1, ?_, by omega⟩
            rcases Int.lt_or_le 1 (s.1 g) with h | h
            · omega
            · exact absurd ⟨by omega, by rw [hkx]; exact h1⟩ h0
    · have e1 : (est grp keep c s x).1 g = s.1 g := by
        unfold est
        split
        · rfl
        · simp only
          rw [upd_other _ _ _ _ (fun e => hgx e.symm)]
      have e2 : (est grp keep c s x).2 g = s.2 g := by
        unfold est
        split
        · rfl
        · simp only
          split
          · rw [upd_other _ _ _ _ (fun e => hgx e.symm)]
          · rfl
      rw [e1, e2, List.filter_cons, if_neg (by simpa using hgx)]
theorem tot_zero {D : Nat → List Nat} {grp dn : Nat → Nat} {g : Nat} : ∀ K, (tot D grp dn g K = 0 ↔ ∀ v x, v < K → x ∈ D v → grp x = g → grp v ≠ g → dn (grp v) ≠ 0) := by
  intro K
  constructor
  · intro h
    induction K with
    | zero => intro v x hv; omega
    | succ K ih =>
      simp only [tot] at h
      intro v x hv hx hgx hgv hd
      by_cases e : v = K
      · subst e
        rw [if_pos hd] at h
        unfold ind at h
        rw [if_neg hgv] at h
        have : x ∈ (D v).filter (fun x => grp x == g) := List.mem_filter.2 ⟨hx, by simp [hgx]⟩
        have := List.length_pos_of_mem this
        omega
      · exact ih (by omega) v x (by omega) hx hgx hgv hd
  · intro h
    rcases Nat.eq_zero_or_pos (tot D grp dn g K) with e | e
    · exact e
    · obtain ⟨v, x, a, b, c, d, e'⟩ := tot_pos K e
      exact absurd b (h v x a d e' c)
/-- g may come where the groups of dn have come. -/
def Rdy (D : Nat → List Nat) (grp : Nat → Nat) (keep kg : Nat → Bool) (n G : Nat) (dn : Nat → Nat) (g : Nat) : Prop :=
  g < G ∧ dn g = 0 ∧ kg g = true ∧ ∀ v x, v < n → keep v = true → x ∈ D v → grp x = g → grp v ≠ g → dn (grp v) ≠ 0
structure LI (D : Nat → List Nat) (grp : Nat → Nat) (keep kg : Nat → Bool) (n G : Nat) (wt : Nat → Int) (rd dn : Nat → Nat) : Prop where
  wtot : ∀ g, wt g = (tot (Dk D keep) grp dn g n : Nat)
  rdy : ∀ g, g < G → (rd g ≠ 0 ↔ dn g = 0 ∧ kg g = true ∧ wt g ≤ 0)
  past : ∀ g, dn g ≠ 0 → wt g ≤ 0
theorem LI.iff {D : Nat → List Nat} {grp : Nat → Nat} {keep kg : Nat → Bool} {n G : Nat} {wt : Nat → Int} {rd dn : Nat → Nat} (h : LI D grp keep kg n G wt rd dn) (g : Nat) (hg : g < G) : rd g ≠ 0 ↔ Rdy D grp keep kg n G dn g := by
  rw [h.rdy g hg, h.wtot g]
  have h1 : ((tot (Dk D keep) grp dn g n : Nat) : Int) ≤ 0 ↔ tot (Dk D keep) grp dn g n = 0 := by omega
  rw [h1, tot_zero]
  unfold Rdy Dk
  constructor
  · rintro ⟨a, b, c⟩
    exact ⟨hg, a, b, fun v x hv hk hx h1 h2 => c v x hv (by rw [if_pos hk]; exact hx) h1 h2⟩
  · rintro ⟨_, a, b, c⟩
    refine ⟨a, b, fun v x hv hx h1 h2 => ?_⟩
    by_cases hk : keep v = true
    · rw [if_pos hk] at hx
      exact c v x hv hk hx h1 h2
    · rw [if_neg hk] at hx
      cases hx
theorem outs_dk {D : Nat → List Nat} {grp : Nat → Nat} {keep : Nat → Bool} {n c : Nat} (h : ∀ v, v < n → grp v = c → keep v = true) : (memb grp n c).flatMap (Dk D keep) = outs D grp n c := by
  unfold outs
  have : ∀ l : List Nat, (∀ v, v ∈ l → keep v = true) → l.flatMap (Dk D keep) = l.flatMap D := by
    intro l
    induction l with
    | nil => intro _; rfl
    | cons v l ih =>
      intro hl
      rw [List.flatMap_cons, List.flatMap_cons, ih (fun y hy => hl y (List.mem_cons_of_mem _ hy))]
      congr 1
      unfold Dk
      rw [if_pos (hl v List.mem_cons_self)]
  exact this _ (fun v hv => h v (mem_memb.1 hv).1 (mem_memb.1 hv).2)
theorem LI.pop {D : Nat → List Nat} {grp : Nat → Nat} {keep kg : Nat → Bool} {n G : Nat} {wt : Nat → Int} {rd dn : Nat → Nat} (h : LI D grp keep kg n G wt rd dn) (hD : ∀ v x, x ∈ D v → x < n) (hU : ∀ v, v < n → keep v = kg (grp v)) {c : Nat} (hc : rd c ≠ 0) (hcG : c < G) :
    LI D grp keep kg n G ((outs D grp n c).foldl (est grp keep c) (wt, upd rd c 0)).1 ((outs D grp n c).foldl (est grp keep c) (wt, upd rd c 0)).2 (upd dn c 1) := by
  obtain ⟨hd, hkc, hw⟩ := (h.rdy c hcG).1 hc
  have hout := outs_dk (D := D) (keep := keep) (n := n) (c := c) (grp := grp) (fun v hv e => by rw [hU v hv, e]; exact hkc)
  have hlt : ∀ x, x ∈ outs D grp n c → x < n := fun x hx => by
    unfold outs at hx
    rw [List.mem_flatMap] at hx
    obtain ⟨v, _, hx⟩ := hx
    exact hD v x hx
  have hwt : ∀ g, ((outs D grp n c).foldl (est grp keep c) (wt, upd rd c 0)).1 g = wt g - ((if g = c then 0 else ((outs D grp n c).filter (fun x => grp x == g)).length : Nat) : Int) := fun g => est_wt _ _
  have htot : ∀ g, ((outs D grp n c).foldl (est grp keep c) (wt, upd rd c 0)).1 g = (tot (Dk D keep) grp (upd dn c 1) g n : Nat) := fun g => by
    rw [hwt, h.wtot g]
    have := tot_pop (D := Dk D keep) (grp := grp) hd g n
    rw [hout] at this
    omega
  refine ⟨htot, fun g hg => ?_, fun g hg => ?_⟩
  · by_cases e : g = c
    · subst e
      rw [upd_same]
      have h0 : ((outs D grp n g).foldl (est grp keep g) (wt, upd rd g 0)).2 g = 0 := by
        have key : ∀ (l : List Nat) (s : (Nat → Int) × (Nat → Nat)), (l.foldl (est grp keep g) s).2 g = s.2 g := by
          intro l
          induction l with
          | nil => intro s; rfl
          | cons x l ih =>
            intro s
            rw [List.foldl_cons, ih]
            unfold est
            split
            · rfl
            · rename_i hne
              simp only
              split
              · rw [upd_other _ _ _ _ (fun e => hne e.symm)]
              · rfl
        rw [key]
        exact upd_same _ _ _
      rw [h0]
      constructor
      · intro h; exact absurd rfl h
      · rintro ⟨h, _⟩; omega
    · rw [est_ready e (kg := kg) (outs D grp n c) (wt, upd rd c 0) (fun x hx => hU x (hlt x hx)), hwt]
      simp only
      rw [upd_other _ _ _ _ e, upd_other _ _ _ _ e, h.rdy g hg, if_neg e]
      constructor
      · rintro (⟨a, b, d⟩ | ⟨a, b, d⟩)
        · exact ⟨a, b, by omega⟩
        · refine ⟨?_, a, by omega⟩
          rcases Nat.eq_zero_or_pos (dn g) with h1 | h1
          · exact h1
          · have := h.past g (by omega); omega
      · rintro ⟨a, b, d⟩
        rcases Int.lt_or_le 0 (wt g) with h1 | h1
        · exact Or.inr ⟨b, by omega, by omega⟩
        · exact Or.inl ⟨a, b, h1⟩
  · rw [hwt]
    by_cases e : g = c
    · subst e
      rw [if_pos rfl]; omega
    · rw [upd_other _ _ _ _ e] at hg
      have := h.past g hg
      omega
theorem LI.start {D : Nat → List Nat} {grp : Nat → Nat} {keep kg : Nat → Bool} {n G : Nat} (hg : Gr n D grp G) (hU : ∀ v, v < n → keep v = kg (grp v)) : LI D grp keep kg n G (wts D grp keep n) (rd0 D grp keep n G) (fun _ => 0) := by
  refine ⟨fun g => wts_dk g n, fun g hgG => ?_, fun g h => absurd rfl h⟩
  have hk : keep ((memb grp n g).getD 0 0) = kg g := by
    obtain ⟨u, h1, h2, _⟩ := hg.onto g hgG
    have hm : u ∈ memb grp n g := mem_memb.2 ⟨h1, h2⟩
    have hl := List.length_pos_of_mem hm
    have : (memb grp n g).getD 0 0 ∈ memb grp n g := by
      rw [List.getD_eq_getElem?_getD, List.getElem?_eq_getElem hl, Option.getD_some]; exact List.getElem_mem hl
    rw [hU _ (mem_memb.1 this).1, (mem_memb.1 this).2]
  unfold rd0 rdy0
  rw [hk]
  have h0 : (0 : Int) ≤ wts D grp keep n g := by rw [wts_dk]; omega
  by_cases h1 : kg g = true
  · by_cases h2 : wts D grp keep n g = 0
    · simp [h1, h2, hgG]
    · have : ¬ wts D grp keep n g ≤ 0 := by omega
      simp [h1, h2, hgG, this]
  · simp [h1]
/-- After the first i of L. -/
def come (dn : Nat → Nat) (L : List Nat) (i : Nat) : Nat → Nat := fun g => if g ∈ L.take i then 1 else dn g
theorem come_succ (dn : Nat → Nat) (c : Nat) (L : List Nat) (i g : Nat) : come dn (c :: L) (i + 1) g = come (upd dn c 1) L i g := by
  unfold come
  simp only [List.take_succ_cons, List.mem_cons, upd]
  by_cases h1 : g = c
  · simp [h1]
  · simp [h1]
theorem come_eq (dn : Nat → Nat) (c : Nat) (L : List Nat) (i : Nat) : come dn (c :: L) (i + 1) = come (upd dn c 1) L i := funext (come_succ dn c L i)
theorem run_least {D : Nat → List Nat} {grp : Nat → Nat} {keep kg : Nat → Bool} {n G : Nat} (hD : ∀ v x, x ∈ D v → x < n) (hU : ∀ v, v < n → keep v = kg (grp v)) : ∀ f wt rd dn, LI D grp keep kg n G wt rd dn → unv dn G ≤ f →
    (∀ i (hi : i < (run (outs D grp n) grp keep G f wt rd).length), Rdy D grp keep kg n G (come dn (run (outs D grp n) grp keep G f wt rd) i) (run (outs D grp n) grp keep G f wt rd)[i] ∧ ∀ g, Rdy D grp keep kg n G (come dn (run (outs D grp n) grp keep G f wt rd) i) g → (run (outs D grp n) grp keep G f wt rd)[i] ≤ g) ∧
    ∀ g, ¬ Rdy D grp keep kg n G (come dn (run (outs D grp n) grp keep G f wt rd) (run (outs D grp n) grp keep G f wt rd).length) g := by
  intro f
  induction f with
  | zero =>
    intro wt rd dn h hf
    refine ⟨fun i hi => ?_, fun g hr => ?_⟩
    · exact absurd hi (by simp [run])
    · have e : come dn (run (outs D grp n) grp keep G 0 wt rd) (run (outs D grp n) grp keep G 0 wt rd).length = dn := by funext g; simp [run, come]
      rw [e] at hr
      exact unv_none (dn := dn) G (by omega) g hr.1 hr.2.1
  | succ f ih =>
    intro wt rd dn h hf
    have hr : run (outs D grp n) grp keep G (f + 1) wt rd = match (List.range G).find? (fun g => rd g != 0) with
      | none => []
      | some c => c :: run (outs D grp n) grp keep G f ((outs D grp n c).foldl (est grp keep c) (wt, upd rd c 0)).1 ((outs D grp n c).foldl (est grp keep c) (wt, upd rd c 0)).2 := rfl
    cases hfd : (List.range G).find? (fun g => rd g != 0) with
    | none =>
      rw [hfd] at hr
      simp only at hr
      rw [hr]
      refine ⟨fun i hi => absurd hi (by simp), fun g hq => ?_⟩
      have h1 : come dn [] ([] : List Nat).length = dn := by funext g; simp [come]
      rw [h1] at hq
      have h2 := (h.iff g hq.1).2 hq
      have h3 := List.find?_eq_none.1 hfd g (List.mem_range.2 hq.1)
      simp at h3
      exact h2 h3
    | some c =>
      rw [hfd] at hr
      simp only at hr
      have hc : rd c ≠ 0 := by simpa using List.find?_some hfd
      have hcG : c < G := List.mem_range.1 (List.mem_of_find?_eq_some hfd)
      have hleast : ∀ g, g < G → rd g ≠ 0 → c ≤ g := fun g hg hgr => by
        rcases Nat.lt_or_ge g c with hlt | hge
        · have := List.find?_range_eq_some.1 hfd
          have := this.2.2 g hlt
          simp at this
          exact absurd this hgr
        · exact hge
      have hd := ((h.rdy c hcG).1 hc).1
      obtain ⟨i1, i2⟩ := ih _ _ (upd dn c 1) (h.pop hD hU hc hcG) (by
        have := unv_upd (ord := dn) (x := c) (z := 1) (by omega) hd G
        rw [if_pos hcG] at this; omega)
      rw [hr]
      have h0 : come dn (c :: run (outs D grp n) grp keep G f ((outs D grp n c).foldl (est grp keep c) (wt, upd rd c 0)).1 ((outs D grp n c).foldl (est grp keep c) (wt, upd rd c 0)).2) 0 = dn := by funext g; simp [come]
      refine ⟨fun i hi => ?_, ?_⟩
      · cases i with
        | zero =>
          rw [h0]
          exact ⟨(h.iff c hcG).1 hc, fun g hg => hleast g hg.1 ((h.iff g hg.1).2 hg)⟩
        | succ i =>
          rw [come_eq]
          exact i1 i (by simpa using hi)
      · rw [List.length_cons, come_eq]
        exact i2
theorem order_least {D : Nat → List Nat} {grp : Nat → Nat} {keep kg : Nat → Bool} {n G : Nat} (hg : Gr n D grp G) (hD : ∀ v x, x ∈ D v → x < n) (hU : ∀ v, v < n → keep v = kg (grp v)) :
    (∀ i (hi : i < (order D grp keep n G).length), Rdy D grp keep kg n G (come (fun _ => 0) (order D grp keep n G) i) (order D grp keep n G)[i] ∧ ∀ g, Rdy D grp keep kg n G (come (fun _ => 0) (order D grp keep n G) i) g → (order D grp keep n G)[i] ≤ g) ∧
    ∀ g, ¬ Rdy D grp keep kg n G (come (fun _ => 0) (order D grp keep n G) (order D grp keep n G).length) g :=
  run_least hD hU G _ _ _ (LI.start hg hU) (by rw [unv_zero]; exact Nat.le_refl _)
/-- Every kept group comes. -/
theorem order_kept {D : Nat → List Nat} {grp : Nat → Nat} {keep kg : Nat → Bool} {n G : Nat} (hg : Gr n D grp G) (hD : ∀ v x, x ∈ D v → x < n) (hU : ∀ v, v < n → keep v = kg (grp v)) (v : Nat) (hv : v < n) (hk : keep v = true) : grp v ∈ order D grp keep n G := by
  have hend := (order_least hg hD hU).2
  obtain ⟨rk, r1, r2⟩ := hg.rank
  obtain ⟨M, hM⟩ := bounded rk n
  have hcome : ∀ g, come (fun _ => 0) (order D grp keep n G) (order D grp keep n G).length g ≠ 0 ↔ g ∈ order D grp keep n G := fun g => by
    unfold come
    rw [List.take_length]
    by_cases h : g ∈ order D grp keep n G
    · simp [h]
    · simp [h]
  have key : ∀ d v, v < n → keep v = true → M - rk v = d → grp v ∈ order D grp keep n G := by
    intro d
    induction d using Nat.strongRecOn with
    | ind d ih =>
      intro v hv hk hd
      apply Classical.byContradiction
      intro hn
      refine hend (grp v) ⟨hg.lt v hv, ?_, by rw [← hU v hv]; exact hk, fun v' x a hk' d' e c => ?_⟩
      · apply Classical.byContradiction
        intro h
        exact hn ((hcome _).1 h)
      · rw [hcome]
        have hx := hD v' x d'
        have h1 := r2 v' x a d'
        have h2 : rk x = rk v := (r1 x v hx hv).1 e
        have h3 : rk v' ≠ rk x := fun h4 => c (by rw [(r1 v' x a hx).2 h4, e])
        have h4 := hM v' a
        exact ih (M - rk v') (by omega) v' a hk' rfl
  exact key _ v hv hk rfl
end Plain
end Go.Proofs.Qxb6616383a
