/-
  The order of the groups as a plain function: counts of what each group waits for, the ready groups, the least first. No Go in sight.
-/
import Derived.Test.Qxb6616383aGroups
import Derived.Test.Qxb6616383aSearch
namespace Go.Proofs.Qxb6616383a.Plain

/-- One edge from a name of group c to x is passed. -/
def est (grp : Nat → Nat) (keep : Nat → Bool) (c : Nat) (s : (Nat → Int) × (Nat → Nat)) (x : Nat) : (Nat → Int) × (Nat → Nat) :=
  if grp x = c then s else (upd s.1 (grp x) (s.1 (grp x) - 1), if s.1 (grp x) - 1 = 0 ∧ keep x = true then upd s.2 (grp x) 1 else s.2)
/-- What the group c's names are joined to. -/
def outs (D : Nat → List Nat) (grp : Nat → Nat) (n c : Nat) : List Nat := (memb grp n c).flatMap D
def run (E : Nat → List Nat) (grp : Nat → Nat) (keep : Nat → Bool) (G : Nat) : Nat → (Nat → Int) → (Nat → Nat) → List Nat
  | 0, _, _ => []
  | f + 1, wt, rd =>
    match (List.range G).find? (fun g => rd g != 0) with
    | none => []
    | some c => c :: run E grp keep G f ((E c).foldl (est grp keep c) (wt, upd rd c 0)).1 ((E c).foldl (est grp keep c) (wt, upd rd c 0)).2
/-- One name's list is counted. -/
def wstep (grp : Nat → Nat) (v : Nat) (wt : Nat → Int) (x : Nat) : Nat → Int := if grp x = grp v then wt else upd wt (grp x) (wt (grp x) + 1)
def wts (D : Nat → List Nat) (grp : Nat → Nat) (keep : Nat → Bool) : Nat → Nat → Int
  | 0 => fun _ => 0
  | v + 1 => if keep v = true then (D v).foldl (wstep grp v) (wts D grp keep v) else wts D grp keep v
/-- The group g may come at once. -/
def rdy0 (D : Nat → List Nat) (grp : Nat → Nat) (keep : Nat → Bool) (n : Nat) (g : Nat) : Bool := keep ((memb grp n g).getD 0 0) && wts D grp keep n g == 0
def rd0 (D : Nat → List Nat) (grp : Nat → Nat) (keep : Nat → Bool) (n G : Nat) (g : Nat) : Nat := if g < G ∧ rdy0 D grp keep n g = true then 1 else 0
def order (D : Nat → List Nat) (grp : Nat → Nat) (keep : Nat → Bool) (n G : Nat) : List Nat := run (outs D grp n) grp keep G G (wts D grp keep n) (rd0 D grp keep n G)

/-! ### Only the edges between groups count -/
theorem foldl_est {grp : Nat → Nat} {keep : Nat → Bool} {c : Nat} : ∀ (l : List Nat) (s : (Nat → Int) × (Nat → Nat)), l.foldl (est grp keep c) s = (l.filter (fun x => grp x != c)).foldl (est grp keep c) s := by
  intro l
  induction l with
  | nil => intro s; rfl
  | cons x l ih =>
    intro s
    rw [List.foldl_cons, List.filter_cons]
    by_cases h : grp x = c
    · have e : est grp keep c s x = s := by simp [est, h]
      rw [e, if_neg (by simp [h])]
      exact ih s
    · rw [if_pos (by simp [h]), List.foldl_cons]
      exact ih _
theorem run_congr {E E' : Nat → List Nat} {grp : Nat → Nat} {keep : Nat → Bool} {G : Nat} (h : ∀ c, (E c).filter (fun x => grp x != c) = (E' c).filter (fun x => grp x != c)) : ∀ f wt rd, run E grp keep G f wt rd = run E' grp keep G f wt rd := by
  intro f
  induction f with
  | zero => intro wt rd; rfl
  | succ f ih =>
    intro wt rd
    simp only [run]
    cases (List.range G).find? (fun g => rd g != 0) with
    | none => rfl
    | some c =>
      simp only
      rw [foldl_est (E c), foldl_est (E' c), h c, ih]
theorem foldl_wstep {grp : Nat → Nat} {v : Nat} : ∀ (l : List Nat) (s : Nat → Int), l.foldl (wstep grp v) s = (l.filter (fun x => grp x != grp v)).foldl (wstep grp v) s := by
  intro l
  induction l with
  | nil => intro s; rfl
  | cons x l ih =>
    intro s
    rw [List.foldl_cons, List.filter_cons]
    by_cases h : grp x = grp v
    · have e : wstep grp v s x = s := by simp [wstep, h]
      rw [e, if_neg (by simp [h])]
      exact ih s
    · rw [if_pos (by simp [h]), List.foldl_cons]
      exact ih _
theorem wts_congr {D D' : Nat → List Nat} {grp : Nat → Nat} {keep : Nat → Bool} (h : ∀ v, (D v).filter (fun x => grp x != grp v) = (D' v).filter (fun x => grp x != grp v)) : ∀ v, wts D grp keep v = wts D' grp keep v := by
  intro v
  induction v with
  | zero => rfl
  | succ v ih =>
    simp only [wts]
    rw [foldl_wstep (D v), foldl_wstep (D' v), h v, ih]
theorem filter_flatMap {p : Nat → Bool} {D D' : Nat → List Nat} : ∀ (l : List Nat), (∀ v, v ∈ l → (D v).filter p = (D' v).filter p) → (l.flatMap D).filter p = (l.flatMap D').filter p := by
  intro l
  induction l with
  | nil => intro _; rfl
  | cons v l ih =>
    intro h
    simp only [List.flatMap_cons, List.filter_append]
    rw [h v (by simp), ih (fun u hu => h u (by simp [hu]))]
theorem order_congr {D D' : Nat → List Nat} {grp : Nat → Nat} {keep : Nat → Bool} {n G : Nat} (h : ∀ v, (D v).filter (fun x => grp x != grp v) = (D' v).filter (fun x => grp x != grp v)) : order D grp keep n G = order D' grp keep n G := by
  have e1 : wts D grp keep n = wts D' grp keep n := wts_congr h n
  have e3 : rdy0 D grp keep n = rdy0 D' grp keep n := by funext g; unfold rdy0; rw [e1]
  have e2 : rd0 D grp keep n G = rd0 D' grp keep n G := by unfold rd0; rw [e3]
  unfold order
  rw [e1, e2]
  refine run_congr (fun c => ?_) _ _ _
  refine filter_flatMap _ (fun v hv => ?_)
  have := (mem_memb.1 hv).2
  rw [← this]; exact h v

/-! ### What the walk keeps -/
structure KI (G : Nat) (wt : Nat → Int) (rd dn : Nat → Nat) : Prop where
  r1 : ∀ g, rd g ≠ 0 → wt g ≤ 0 ∧ dn g = 0 ∧ g < G
  r2 : ∀ g, dn g ≠ 0 → wt g ≤ 0
theorem KI.start (D : Nat → List Nat) (grp : Nat → Nat) (keep : Nat → Bool) (n G : Nat) : KI G (wts D grp keep n) (rd0 D grp keep n G) (fun _ => 0) := by
  refine ⟨fun g hg => ?_, fun g hg => absurd rfl hg⟩
  simp only [rd0] at hg
  by_cases h : g < G ∧ rdy0 D grp keep n g = true
  · simp only [rdy0, Bool.and_eq_true, beq_iff_eq] at h
    exact ⟨by omega, rfl, h.1⟩
  · rw [if_neg h] at hg; exact absurd rfl hg
theorem KI.pop {G : Nat} {wt : Nat → Int} {rd dn : Nat → Nat} (h : KI G wt rd dn) {c : Nat} (hc : rd c ≠ 0) : KI G wt (upd rd c 0) (upd dn c 1) := by
  have h0 := h.r1 c hc
  refine ⟨fun g hg => ?_, fun g hg => ?_⟩
  · simp only [upd] at hg ⊢
    by_cases e : g = c
    · rw [if_pos e] at hg; exact absurd rfl hg
    · rw [if_neg e] at hg; rw [if_neg e]; exact h.r1 g hg
  · simp only [upd] at hg
    by_cases e : g = c
    · rw [e]; exact h0.1
    · rw [if_neg e] at hg; exact h.r2 g hg
theorem KI.est {G : Nat} {wt : Nat → Int} {rd dn : Nat → Nat} (h : KI G wt rd dn) {grp : Nat → Nat} {keep : Nat → Bool} {c x : Nat} (hx : grp x < G) : KI G (est grp keep c (wt, rd) x).1 (est grp keep c (wt, rd) x).2 dn := by
  unfold Plain.est
  by_cases hc : grp x = c
  · rw [if_pos hc]; exact h
  · rw [if_neg hc]
    simp only
    refine ⟨fun g hg => ?_, fun g hg => ?_⟩
    · by_cases hz : wt (grp x) - 1 = 0 ∧ keep x = true
      · rw [if_pos hz] at hg
        simp only [upd] at hg ⊢
        by_cases e : g = grp x
        · rw [if_pos e]
          refine ⟨by omega, ?_, by omega⟩
          apply Classical.byContradiction
          intro hd
          have := h.r2 g hd
          rw [e] at this; omega
        · rw [if_neg e] at hg; rw [if_neg e]; exact h.r1 g hg
      · rw [if_neg hz] at hg
        simp only [upd]
        have := h.r1 g hg
        by_cases e : g = grp x
        · rw [if_pos e]; rw [e] at this; rw [e]; exact ⟨by omega, this.2.1, this.2.2⟩
        · rw [if_neg e]; exact this
    · have := h.r2 g hg
      simp only [upd]
      by_cases e : g = grp x
      · rw [if_pos e]; rw [e] at this; omega
      · rw [if_neg e]; exact this
/-- A group that is pushed was neither ready nor done. -/
theorem KI.fresh {G : Nat} {wt : Nat → Int} {rd dn : Nat → Nat} (h : KI G wt rd dn) {g : Nat} (hg : wt g - 1 = 0) : rd g = 0 := by
  apply Classical.byContradiction
  intro hd
  have := (h.r1 g hd).1
  omega
theorem KI.fold {G : Nat} {dn : Nat → Nat} {grp : Nat → Nat} {keep : Nat → Bool} {c : Nat} : ∀ (l : List Nat) (s : (Nat → Int) × (Nat → Nat)), (∀ x, x ∈ l → grp x < G) → KI G s.1 s.2 dn → KI G (l.foldl (Plain.est grp keep c) s).1 (l.foldl (Plain.est grp keep c) s).2 dn := by
  intro l
  induction l with
  | nil => intro s _ h; exact h
  | cons x l ih =>
    intro s hl h
    rw [List.foldl_cons]
    exact ih _ (fun y hy => hl y (by simp [hy])) (h.est (hl x (by simp)))
/-- The least ready group is the one that 'run' takes. -/
theorem find_least {G c : Nat} {rd : Nat → Nat} (hc : rd c ≠ 0) (hG : c < G) (hl : ∀ g, g < G → rd g ≠ 0 → c ≤ g) : (List.range G).find? (fun g => rd g != 0) = some c := by
  rw [List.find?_eq_some_iff_append]
  refine ⟨by simp [hc], List.range c, (List.range (G - c - 1)).map (fun i => c + 1 + i), ?_, fun a ha => ?_⟩
  · apply List.ext_getElem
    · simp; omega
    · intro i h1 h2
      simp only [List.length_range] at h1
      rw [List.getElem_append]
      simp only [List.length_range, List.getElem_range]
      by_cases hi : i < c
      · simp [hi]
      · simp only [hi, dif_neg, not_false_eq_true]
        rw [List.getElem_cons]
        by_cases e : i - c = 0
        · simp [e]; omega
        · simp [e]; omega
  · have ha' : a < c := by simpa using ha
    by_cases h0 : rd a = 0
    · simp [h0]
    · have := hl a (by omega) h0; omega
theorem find_none {G : Nat} {rd : Nat → Nat} (h : ∀ g, g < G → rd g = 0) : (List.range G).find? (fun g => rd g != 0) = none := by
  rw [List.find?_eq_none]
  intro g hg
  simp [h g (by simpa using hg)]
theorem run_none {E : Nat → List Nat} {grp : Nat → Nat} {keep : Nat → Bool} {G f : Nat} {wt : Nat → Int} {rd : Nat → Nat} (h : ∀ g, g < G → rd g = 0) : run E grp keep G f wt rd = [] := by
  cases f with
  | zero => rfl
  | succ f => simp only [run, find_none h]
theorem run_some {E : Nat → List Nat} {grp : Nat → Nat} {keep : Nat → Bool} {G f c : Nat} {wt : Nat → Int} {rd : Nat → Nat} (hc : rd c ≠ 0) (hG : c < G) (hl : ∀ g, g < G → rd g ≠ 0 → c ≤ g) :
    run E grp keep G (f + 1) wt rd = c :: run E grp keep G f ((E c).foldl (est grp keep c) (wt, upd rd c 0)).1 ((E c).foldl (est grp keep c) (wt, upd rd c 0)).2 := by
  simp only [run, find_least hc hG hl]
theorem unv_off {rd : Nat → Nat} {c n : Nat} (hc : rd c ≠ 0) (hn : c < n) : unv (upd rd c 0) n = unv rd n + 1 := by
  have h := unv_upd (ord := upd rd c 0) (x := c) hc (upd_same _ _ _) n
  have e : upd (upd rd c 0) c (rd c) = rd := by
    funext g; simp only [upd]; split
    · next h => rw [h]
    · rfl
  rw [e, if_pos hn] at h
  omega

/-! ### Where every name is kept, every group comes, once -/
theorem run_nodup {E : Nat → List Nat} {grp : Nat → Nat} {keep : Nat → Bool} {G : Nat} (hE : ∀ c x, x ∈ E c → grp x < G) : ∀ f wt rd dn, KI G wt rd dn → (run E grp keep G f wt rd).Nodup ∧ ∀ c, c ∈ run E grp keep G f wt rd → c < G ∧ dn c = 0 := by
  intro f
  induction f with
  | zero => intro wt rd dn _; simp [run]
  | succ f ih =>
    intro wt rd dn h
    simp only [run]
    cases hf : (List.range G).find? (fun g => rd g != 0) with
    | none => simp
    | some c =>
      have hc : rd c ≠ 0 := by have := List.find?_some hf; simpa using this
      have h0 := h.r1 c hc
      obtain ⟨i1, i2⟩ := ih _ _ _ (KI.fold (E c) (wt, upd rd c 0) (hE c) (h.pop hc))
      refine ⟨List.nodup_cons.2 ⟨fun hm => ?_, i1⟩, fun g hg => ?_⟩
      · have := (i2 c hm).2
        rw [upd_same] at this; omega
      · rcases List.mem_cons.1 hg with e | hg
        · rw [e]; exact ⟨h0.2.2, h0.2.1⟩
        · have := i2 g hg
          refine ⟨this.1, ?_⟩
          by_cases e : g = c
          · rw [e]; exact h0.2.1
          · rw [upd_other _ _ _ _ e] at this; exact this.2
def ind (D : Nat → List Nat) (grp : Nat → Nat) (v g : Nat) : Nat := if grp v = g then 0 else ((D v).filter (fun x => grp x == g)).length
/-- The edges into g from the groups that have not come. -/
def tot (D : Nat → List Nat) (grp dn : Nat → Nat) (g : Nat) : Nat → Nat
  | 0 => 0
  | v + 1 => tot D grp dn g v + (if dn (grp v) = 0 then ind D grp v g else 0)
theorem est_wt {grp : Nat → Nat} {keep : Nat → Bool} {c g : Nat} : ∀ (l : List Nat) (s : (Nat → Int) × (Nat → Nat)), (l.foldl (est grp keep c) s).1 g = s.1 g - ((if g = c then 0 else (l.filter (fun x => grp x == g)).length : Nat) : Int) := by
  intro l
  induction l with
  | nil => intro s; simp
  | cons x l ih =>
    intro s
    rw [List.foldl_cons, ih]
    unfold est
    by_cases hc : grp x = c
    · rw [if_pos hc]
      by_cases hg : g = c
      · simp [hg]
      · rw [if_neg hg, if_neg hg, List.filter_cons, if_neg (by simp; omega)]
    · rw [if_neg hc]
      simp only [upd]
      by_cases hg : g = grp x
      · rw [if_pos hg, if_neg (by omega), if_neg (by omega), List.filter_cons, if_pos (by simp [hg]), ← hg]
        simp only [List.length_cons]
        omega
      · rw [if_neg hg]
        by_cases hg2 : g = c
        · simp [hg2]
        · rw [if_neg hg2, if_neg hg2, List.filter_cons, if_neg (by simp; omega)]
theorem wstep_wt {grp : Nat → Nat} {v g : Nat} : ∀ (l : List Nat) (s : Nat → Int), (l.foldl (wstep grp v) s) g = s g + ((if grp v = g then 0 else (l.filter (fun x => grp x == g)).length : Nat) : Int) := by
  intro l
  induction l with
  | nil => intro s; simp
  | cons x l ih =>
    intro s
    rw [List.foldl_cons, ih]
    unfold wstep
    by_cases hc : grp x = grp v
    · rw [if_pos hc]
      by_cases hg : grp v = g
      · simp [hg]
      · rw [if_neg hg, if_neg hg, List.filter_cons, if_neg (by simp; omega)]
    · rw [if_neg hc]
      simp only [upd]
      by_cases hg : g = grp x
      · rw [if_pos hg, if_neg (by omega), if_neg (by omega), List.filter_cons, if_pos (by simp [hg]), ← hg]
        simp only [List.length_cons]
        omega
      · rw [if_neg hg]
        by_cases hg2 : grp v = g
        · simp [hg2]
        · rw [if_neg hg2, if_neg hg2, List.filter_cons, if_neg (by simp; omega)]
theorem wts_tot {D : Nat → List Nat} {grp : Nat → Nat} {keep : Nat → Bool} {n : Nat} (hk : ∀ v, v < n → keep v = true) (g : Nat) : ∀ v, v ≤ n → wts D grp keep v g = (tot D grp (fun _ => 0) g v : Nat) := by
  intro v
  induction v with
  | zero => intro _; rfl
  | succ v ih =>
    intro hv
    simp only [wts, tot]
    rw [if_pos (hk v (by omega)), wstep_wt, ih (by omega), if_pos trivial]
    unfold ind
    omega
theorem tot_pop {D : Nat → List Nat} {grp dn : Nat → Nat} {c : Nat} (hc : dn c = 0) (g : Nat) : ∀ K, tot D grp (upd dn c 1) g K + (if g = c then 0 else (((memb grp K c).flatMap D).filter (fun x => grp x == g)).length) = tot D grp dn g K := by
  intro K
  induction K with
  | zero => simp [tot, memb, sel]
  | succ K ih =>
    simp only [tot]
    rw [memb_succ]
    by_cases hK : grp K = c
    · rw [if_pos hK, hK, upd_same, if_neg (by omega), if_pos hc, List.flatMap_append, List.filter_append, List.length_append]
      unfold ind
      rw [hK]
      by_cases hg : g = c
      · rw [if_pos hg] at ih ⊢; rw [if_pos hg.symm]; omega
      · rw [if_neg hg] at ih ⊢
        rw [if_neg (fun e => hg e.symm)]
        simp only [List.flatMap_cons, List.flatMap_nil, List.append_nil]
        omega
    · rw [if_neg hK, upd_other _ _ _ _ hK, List.append_nil]
      omega
theorem tot_pos {D : Nat → List Nat} {grp dn : Nat → Nat} {g : Nat} : ∀ K, 0 < tot D grp dn g K → ∃ v x, v < K ∧ dn (grp v) = 0 ∧ grp v ≠ g ∧ x ∈ D v ∧ grp x = g := by
  intro K
  induction K with
  | zero => intro h; simp [tot] at h
  | succ K ih =>
    intro h
    simp only [tot] at h
    by_cases h1 : 0 < tot D grp dn g K
    · obtain ⟨v, x, a, b⟩ := ih h1
      exact ⟨v, x, by omega, b⟩
    · by_cases h2 : dn (grp K) = 0
      · rw [if_pos h2] at h
        unfold ind at h
        by_cases h3 : grp K = g
        · rw [if_pos h3] at h; omega
        · rw [if_neg h3] at h
          have h4 : 0 < ((D K).filter (fun x => grp x == g)).length := by omega
          obtain ⟨x, hx⟩ := List.exists_mem_of_length_pos h4
          rw [List.mem_filter] at hx
          exact ⟨K, x, by omega, h2, h3, hx.1, by simpa using hx.2⟩
      · rw [if_neg h2] at h; omega
/-- No group is left behind. -/
structure CI (n G : Nat) (D : Nat → List Nat) (grp : Nat → Nat) (wt : Nat → Int) (rd dn : Nat → Nat) : Prop where
  wtot : ∀ g, wt g = (tot D grp dn g n : Nat)
  cover : ∀ g, g < G → wt g ≤ 0 → rd g ≠ 0 ∨ dn g ≠ 0
theorem est_cover {G : Nat} {grp : Nat → Nat} {keep : Nat → Bool} {c : Nat} {dn : Nat → Nat} : ∀ (l : List Nat) (s : (Nat → Int) × (Nat → Nat)), (∀ x, x ∈ l → keep x = true) → (∀ g, g < G → s.1 g ≤ 0 → s.2 g ≠ 0 ∨ dn g ≠ 0) →
    ∀ g, g < G → (l.foldl (est grp keep c) s).1 g ≤ 0 → (l.foldl (est grp keep c) s).2 g ≠ 0 ∨ dn g ≠ 0 := by
  intro l
  induction l with
  | nil => intro s _ h; exact h
  | cons x l ih =>
    intro s hl h
    rw [List.foldl_cons]
    refine ih _ (fun y hy => hl y (by simp [hy])) (fun g hg hw => ?_)
    unfold est at hw ⊢
    by_cases hc : grp x = c
    · rw [if_pos hc] at hw ⊢; exact h g hg hw
    · rw [if_neg hc] at hw ⊢
      simp only [upd] at hw ⊢
      by_cases e : g = grp x
      · rw [if_pos e] at hw
        by_cases hz : s.1 (grp x) - 1 = 0
        · rw [if_pos ⟨hz, hl x (by simp)⟩, e, upd_same]; left; omega
        · have := h g hg (by rw [e]; omega)
          rw [if_neg (fun hh => hz hh.1)]; exact this
      · rw [if_neg e] at hw
        have := h g hg hw
        by_cases hz : s.1 (grp x) - 1 = 0 ∧ keep x = true
        · rw [if_pos hz, upd_other _ _ _ _ e]; exact this
        · rw [if_neg hz]; exact this
theorem CI.pop {n G : Nat} {D : Nat → List Nat} {grp : Nat → Nat} {keep : Nat → Bool} {wt : Nat → Int} {rd dn : Nat → Nat} (h : CI n G D grp wt rd dn) (hk : ∀ v, v < n → keep v = true) (hD : ∀ v x, x ∈ D v → x < n) {c : Nat} (hc : dn c = 0) :
    CI n G D grp ((outs D grp n c).foldl (est grp keep c) (wt, upd rd c 0)).1 ((outs D grp n c).foldl (est grp keep c) (wt, upd rd c 0)).2 (upd dn c 1) := by
  refine ⟨fun g => ?_, est_cover _ _ (fun x hx => ?_) (fun g hg hw => ?_)⟩
  · rw [est_wt]
    have h1 := tot_pop (D := D) (grp := grp) hc g n
    have h2 := h.wtot g
    simp only at h2 ⊢
    rw [h2]
    unfold outs
    omega
  · obtain ⟨v, _, hv⟩ := List.mem_flatMap.1 hx
    exact hk x (hD v x hv)
  · simp only [upd] at hw ⊢
    by_cases e : g = c
    · rw [if_pos e]; right; rw [if_pos e]; omega
    · rw [if_neg e, if_neg e]; exact h.cover g hg hw
theorem CI.start {n G : Nat} {D : Nat → List Nat} {grp : Nat → Nat} {keep : Nat → Bool} (hk : ∀ v, v < n → keep v = true) (ho : ∀ g, g < G → ∃ u, u < n ∧ grp u = g) : CI n G D grp (wts D grp keep n) (rd0 D grp keep n G) (fun _ => 0) := by
  refine ⟨fun g => wts_tot hk g n (Nat.le_refl _), fun g hg hw => ?_⟩
  left
  have h0 : wts D grp keep n g = 0 := by have := wts_tot (D := D) (grp := grp) hk g n (Nat.le_refl _); omega
  obtain ⟨u, hu, e⟩ := ho g hg
  have hm : u ∈ memb grp n g := mem_memb.2 ⟨hu, e⟩
  have hl : 0 < (memb grp n g).length := List.length_pos_of_mem hm
  have hh : (memb grp n g).getD 0 0 ∈ memb grp n g := by
    rw [List.getD_eq_getElem?_getD, List.getElem?_eq_getElem hl]
    exact List.getElem_mem hl
  have hkk := hk _ (mem_memb.1 hh).1
  unfold rd0 rdy0
  rw [if_pos ⟨hg, by rw [hkk, h0]; rfl⟩]
  omega
theorem unv_none {dn : Nat → Nat} : ∀ n, unv dn n = 0 → ∀ g, g < n → dn g ≠ 0 := by
  intro n
  induction n with
  | zero => intro _ g hg; omega
  | succ n ih =>
    intro h g hg
    simp only [unv] at h
    by_cases h1 : dn n = 0
    · rw [if_pos h1] at h; omega
    · rw [if_neg h1] at h
      by_cases e : g = n
      · rw [e]; exact h1
      · exact ih (by omega) g (by omega)
theorem bounded (rk : Nat → Nat) : ∀ n, ∃ M, ∀ u, u < n → rk u ≤ M := by
  intro n
  induction n with
  | zero => exact ⟨0, fun u hu => by omega⟩
  | succ n ih =>
    obtain ⟨M, hM⟩ := ih
    refine ⟨M + rk n, fun u hu => ?_⟩
    by_cases e : u = n
    · rw [e]; omega
    · have := hM u (by omega); omega
/-- Where nothing is ready, all have come. -/
theorem CI.end_ {n G : Nat} {D : Nat → List Nat} {grp : Nat → Nat} {wt : Nat → Int} {rd dn : Nat → Nat} (h : CI n G D grp wt rd dn) (hg : Gr n D grp G) (hD : ∀ v x, x ∈ D v → x < n) (h0 : ∀ g, g < G → rd g = 0) : ∀ g, g < G → dn g ≠ 0 := by
  obtain ⟨rk, r1, r2⟩ := hg.rank
  obtain ⟨M, hM⟩ := bounded rk n
  have key : ∀ d v, v < n → M - rk v = d → dn (grp v) ≠ 0 := by
    intro d
    induction d using Nat.strongRecOn with
    | ind d ih =>
      intro v hv hd hn
      have hG := hg.lt v hv
      have hw : 0 < tot D grp dn (grp v) n := by
        apply Classical.byContradiction
        intro hc
        have h1 := h.wtot (grp v)
        rcases h.cover (grp v) hG (by omega) with h2 | h2
        · exact h2 (h0 _ hG)
        · exact h2 hn
      obtain ⟨v', x, a, b, c, d', e⟩ := tot_pos n hw
      have hx := hD v' x d'
      have h1 := r2 v' x a d'
      have h2 : rk x = rk v := (r1 x v hx hv).1 e
      have h3 : rk v' ≠ rk x := fun h4 => c (by rw [(r1 v' x a hx).2 h4, e])
      have h4 := hM v' a
      exact ih (M - rk v') (by omega) v' a rfl b
  intro g hgG
  obtain ⟨u, hu, e, _⟩ := hg.onto g hgG
  rw [← e]
  exact key _ u hu rfl
theorem run_all {n G : Nat} {D : Nat → List Nat} {grp : Nat → Nat} {keep : Nat → Bool} (hg : Gr n D grp G) (hD : ∀ v x, x ∈ D v → x < n) (hk : ∀ v, v < n → keep v = true) :
    ∀ f wt rd dn, KI G wt rd dn → CI n G D grp wt rd dn → unv dn G ≤ f → ∀ g, g < G → dn g = 0 → g ∈ run (outs D grp n) grp keep G f wt rd := by
  intro f
  induction f with
  | zero =>
    intro wt rd dn _ _ hf g hgG h0
    exact absurd h0 (unv_none G (by omega) g hgG)
  | succ f ih =>
    intro wt rd dn hK hC hf g hgG h0
    simp only [run]
    cases hfi : (List.range G).find? (fun g => rd g != 0) with
    | none =>
      have : ∀ g, g < G → rd g = 0 := fun g hg => by
        have := List.find?_eq_none.1 hfi g (by simpa using hg)
        simpa using this
      exact absurd h0 (hC.end_ hg hD this g hgG)
    | some c =>
      have hc : rd c ≠ 0 := by have := List.find?_some hfi; simpa using this
      have hr := hK.r1 c hc
      simp only [List.mem_cons]
      by_cases e : g = c
      · exact Or.inl e
      · right
        have hun := unv_upd (ord := dn) (x := c) (z := 1) (by omega) hr.2.1 G
        rw [if_pos hr.2.2] at hun
        exact ih _ _ _ (KI.fold _ (wt, upd rd c 0) (fun x hx => by
          obtain ⟨v, _, hv⟩ := List.mem_flatMap.1 hx
          exact hg.lt x (hD v x hv)) (hK.pop hc)) (hC.pop hk hD hr.2.1) (by omega) g hgG (by rw [upd_other _ _ _ _ e]; exact h0)
theorem order_all {n G : Nat} {D : Nat → List Nat} {grp : Nat → Nat} {keep : Nat → Bool} (hg : Gr n D grp G) (hD : ∀ v x, x ∈ D v → x < n) (hk : ∀ v, v < n → keep v = true) (g : Nat) (h : g < G) : g ∈ order D grp keep n G :=
  run_all hg hD hk G _ _ (fun _ => 0) (KI.start D grp keep n G) (CI.start hk (fun g h => by obtain ⟨u, a, b, _⟩ := hg.onto g h; exact ⟨u, a, b⟩)) (by rw [unv_zero]; exact Nat.le_refl _) g h rfl
theorem order_nodup {n G : Nat} {D : Nat → List Nat} {grp : Nat → Nat} {keep : Nat → Bool} (hg : Gr n D grp G) (hD : ∀ v x, x ∈ D v → x < n) : (order D grp keep n G).Nodup ∧ ∀ c, c ∈ order D grp keep n G → c < G := by
  obtain ⟨a, b⟩ := run_nodup (E := outs D grp n) (grp := grp) (keep := keep) (G := G) (fun c x hx => by
    obtain ⟨v, _, hv⟩ := List.mem_flatMap.1 hx
    exact hg.lt x (hD v x hv)) G _ _ _ (KI.start D grp keep n G)
  exact ⟨a, fun c hc => (b c hc).1⟩
end Go.Proofs.Qxb6616383a.Plain
