/-
  The plain mathematics of the search for loops (strongly connected components) with a stack of its own. No Go in sight.
-/
import Derived.KernelRfl
namespace Go.Proofs.Qxb6616383a.Plain

/-! ### Reachability -/
def reachN (d : Nat → List Nat) : Nat → Nat → Nat → Prop
  | 0, u, v => u = v
  | k + 1, u, v => ∃ x, x ∈ d u ∧ reachN d k x v
def Reach (d : Nat → List Nat) (u v : Nat) : Prop := ∃ k, reachN d k u v
theorem Reach.refl (d : Nat → List Nat) (u : Nat) : Reach d u u := ⟨0, rfl⟩
theorem reachN_trans (d : Nat → List Nat) : ∀ k l u v x, reachN d k u v → reachN d l v x → reachN d (k + l) u x := by
  intro k
  induction k with
  | zero => intro l u v x h1 h2; have : u = v := h1; subst this; rw [Nat.zero_add]; exact h2
  | succ k ih =>
    intro l u v x h1 h2
    obtain ⟨y, hy, h3⟩ := h1
    rw [Nat.add_right_comm]
    exact ⟨y, hy, ih l y v x h3 h2⟩
theorem Reach.trans {d : Nat → List Nat} {u v x : Nat} (h : Reach d u v) (h' : Reach d v x) : Reach d u x := by
  obtain ⟨k, hk⟩ := h
  obtain ⟨l, hl⟩ := h'
  exact ⟨k + l, reachN_trans d k l u v x hk hl⟩
theorem Reach.step {d : Nat → List Nat} {u v : Nat} (h : v ∈ d u) : Reach d u v := ⟨1, v, h, rfl⟩
/-- A set that is shut under the edges is shut under reach. -/
theorem Reach.shut {d : Nat → List Nat} (S : Nat → Prop) (hS : ∀ u, S u → ∀ x ∈ d u, S x) {u v : Nat} (h : Reach d u v) (hu : S u) : S v := by
  obtain ⟨k, hk⟩ := h
  induction k generalizing u with
  | zero => have : u = v := hk; subst this; exact hu
  | succ k ih =>
    obtain ⟨x, hx, h2⟩ := hk
    exact ih (hS u hu x hx) h2

def upd {α : Type} (f : Nat → α) (i : Nat) (a : α) : Nat → α := fun x => if x = i then a else f x
theorem upd_same {α : Type} (f : Nat → α) (i : Nat) (a : α) : upd f i a i = a := by simp [upd]
theorem upd_other {α : Type} (f : Nat → α) (i : Nat) (a : α) (x : Nat) (h : x ≠ i) : upd f i a x = f x := by simp [upd, h]

/-- The frames' edges that have been looked at. -/
def PathOk (d : Nat → List Nat) (ord low : Nat → Nat) (stk : List Nat) : Option Nat → List (Nat × Nat) → Prop
  | _, [] => True
  | above, p :: rest => (∀ i, i < p.2 → ∀ x, (d p.1)[i]? = some x → ord x ≠ 0 ∧ (x ∈ stk → low p.1 ≤ ord x ∨ above = some x)) ∧ PathOk d ord low stk (some p.1) rest

/-- The search's state. stk and path: the top first. -/
structure TI (n : Nat) (d : Nat → List Nat) (ord low cmp : Nat → Nat) (stk : List Nat) (nc vis : Nat) (path : List (Nat × Nat)) : Prop where
  olt : ∀ u, ord u ≠ 0 → u < n ∧ ord u ≤ vis
  oinj : ∀ u v, ord u ≠ 0 → ord u = ord v → u = v
  ovis : ∀ u, u ∈ stk → ord u ≠ 0
  ssort : stk.Pairwise fun a b => ord b < ord a
  psort : (path.map (·.1)).Pairwise fun a b => ord b < ord a
  pstk : ∀ p, p ∈ path → p.1 ∈ stk
  pidx : ∀ p, p ∈ path → p.2 ≤ (d p.1).length
  i1 : ∀ p, p ∈ path → ∀ v, v ∈ stk → ord p.1 ≤ ord v → Reach d p.1 v
  i2 : ∀ v, v ∈ stk → ∃ p, p ∈ path ∧ ord p.1 ≤ ord v ∧ Reach d v p.1
  i3 : ∀ v, v ∈ stk → low v ≤ ord v ∧ ∃ x, x ∈ stk ∧ Reach d v x ∧ ord x = low v
  i4 : ∀ v, v ∈ stk → v ∉ path.map (·.1) → ∀ x, x ∈ d v → ord x ≠ 0 ∧ (x ∈ stk → low v ≤ ord x)
  i4p : PathOk d ord low stk none path
  i5 : ∀ u, u ∈ stk → u ∉ path.map (·.1) → ∀ p, p ∈ path → ord p.1 ≤ ord u → (∀ q, q ∈ path → ord q.1 ≤ ord u → ord q.1 ≤ ord p.1) → low p.1 ≤ low u
  shut : ∀ u, ord u ≠ 0 → u ∉ stk → (∀ x, x ∈ d u → ord x ≠ 0 ∧ x ∉ stk ∧ cmp x ≤ cmp u) ∧ cmp u < nc
  cls : ∀ u v, ord u ≠ 0 → u ∉ stk → ord v ≠ 0 → v ∉ stk → (cmp u = cmp v ↔ Reach d u v ∧ Reach d v u)

theorem TI.start (n : Nat) (d : Nat → List Nat) (low cmp : Nat → Nat) : TI n d (fun _ => 0) low cmp [] 0 0 [] := by
  refine ⟨?_, ?_, ?_, List.Pairwise.nil, List.Pairwise.nil, ?_, ?_, ?_, ?_, ?_, ?_, trivial, ?_, ?_, ?_⟩ <;> intros <;> simp_all

theorem PathOk.mono {d : Nat → List Nat} {ord low ord' low' : Nat → Nat} {stk stk' : List Nat} (P : Nat → Prop)
    (h1 : ∀ u x, P u → ord x ≠ 0 → (x ∈ stk → low u ≤ ord x) → ord' x ≠ 0 ∧ (x ∈ stk' → low' u ≤ ord' x))
    (h2 : ∀ x, ord x ≠ 0 → ord' x ≠ 0) : ∀ (path : List (Nat × Nat)) (above : Option Nat), (∀ p, p ∈ path → P p.1) → PathOk d ord low stk above path → PathOk d ord' low' stk' above path := by
  intro path
  induction path with
  | nil => intro _ _ _; trivial
  | cons p rest ih =>
    intro above hP h
    refine ⟨fun i hi x hx => ?_, ih _ (fun q hq => hP q (by simp [hq])) h.2⟩
    obtain ⟨a, b⟩ := h.1 i hi x hx
    refine ⟨h2 x a, fun hx' => ?_⟩
    by_cases hab : above = some x
    · exact Or.inr hab
    · have : x ∈ stk → low p.1 ≤ ord x := fun hs => (b hs).elim id (fun e => absurd e hab)
      exact Or.inl ((h1 p.1 x (hP p (by simp)) a this).2 hx')

section
variable {n : Nat} {d : Nat → List Nat} {ord low cmp : Nat → Nat} {stk : List Nat} {nc vis : Nat} {path : List (Nat × Nat)}

theorem TI.empty (h : TI n d ord low cmp stk nc vis []) : stk = [] := by
  cases stk with
  | nil => rfl
  | cons v s => obtain ⟨p, hp, _⟩ := h.i2 v (by simp); cases hp

/-- T0: a new root. -/
theorem TI.root (h : TI n d ord low cmp [] nc vis []) (r : Nat) (hr : r < n) (h0 : ord r = 0) :
    TI n d (upd ord r (vis + 1)) (upd low r (vis + 1)) cmp [r] nc (vis + 1) [(r, 0)] := by
  have ho : ∀ u, upd ord r (vis + 1) u ≠ 0 → u = r ∨ (u ≠ r ∧ ord u ≠ 0) := by
    intro u hu
    by_cases e : u = r
    · exact Or.inl e
    · rw [upd_other _ _ _ _ e] at hu; exact Or.inr ⟨e, hu⟩
  refine ⟨?_, ?_, ?_, by simp, by simp, ?_, ?_, ?_, ?_, ?_, ?_, ?_, ?_, ?_, ?_⟩
  · intro u hu
    rcases ho u hu with rfl | ⟨e, h1⟩
    · rw [upd_same]; exact ⟨hr, Nat.le_refl _⟩
    · rw [upd_other _ _ _ _ e]; have := h.olt u h1; omega
  · intro u v hu huv
    rcases ho u hu with rfl | ⟨e, h1⟩
    · rw [upd_same] at huv
      by_cases e' : v = u
      · exact e'.symm
      · rw [upd_other _ _ _ _ e'] at huv
        have := (h.olt v (by omega)).2; omega
    · rw [upd_other _ _ _ _ e] at huv
      by_cases e' : v = r
      · subst e'; rw [upd_same] at huv; have := (h.olt u h1).2; omega
      · rw [upd_other _ _ _ _ e'] at huv; exact h.oinj u v h1 huv
  · intro u hu; simp at hu; subst hu; rw [upd_same]; omega
  · intro p hp; simp at hp; subst hp; simp
  · intro p hp; simp at hp; subst hp; simp
  · intro p hp v hv _; simp at hp hv; subst hp hv; exact Reach.refl _ _
  · intro v hv; simp at hv; subst hv; exact ⟨(v, 0), by simp, Nat.le_refl _, Reach.refl _ _⟩
  · intro v hv; simp at hv; subst hv; rw [upd_same, upd_same]; exact ⟨Nat.le_refl _, v, by simp, Reach.refl _ _, by rw [upd_same]⟩
  · intro v hv hn; simp at hv; subst hv; simp at hn
  · exact ⟨fun i hi => by simp at hi, trivial⟩
  · intro u hu hn; simp at hu; subst hu; simp at hn
  · intro u hu hn
    have e : u ≠ r := by simpa using hn
    rcases ho u hu with e' | ⟨_, h1⟩
    · exact absurd e' e
    · obtain ⟨a, b⟩ := h.shut u h1 (by simp)
      refine ⟨fun x hx => ?_, b⟩
      obtain ⟨a1, _, a3⟩ := a x hx
      have ex : x ≠ r := fun e => a1 (by rw [e]; exact h0)
      rw [upd_other _ _ _ _ ex]; exact ⟨a1, by simp [ex], a3⟩
  · intro u v hu hun hv hvn
    rcases ho u hu with e | ⟨_, h1⟩
    · simp [e] at hun
    rcases ho v hv with e | ⟨_, h2⟩
    · simp [e] at hvn
    exact h.cls u v h1 (by simp) h2 (by simp)

/-- T1: a name not visited yet is come to. -/
theorem TI.child {v k : Nat} {rest : List (Nat × Nat)} (h : TI n d ord low cmp stk nc vis ((v, k) :: rest)) (w : Nat) (hw : (d v)[k]? = some w) (hwn : w < n) (h0 : ord w = 0) :
    TI n d (upd ord w (vis + 1)) (upd low w (vis + 1)) cmp (w :: stk) nc (vis + 1) ((w, 0) :: (v, k + 1) :: rest) := by
  have hk : k < (d v).length := (List.getElem?_eq_some_iff.1 hw).1
  have hwd : w ∈ d v := List.mem_of_getElem? hw
  have hws : w ∉ stk := fun hs => h.ovis w hs h0
  have hvs : v ∈ stk := h.pstk (v, k) (by simp)
  have hne : ∀ u, u ∈ stk → u ≠ w := fun u hu e => hws (e ▸ hu)
  have ho : ∀ u, upd ord w (vis + 1) u ≠ 0 → u = w ∨ (u ≠ w ∧ ord u ≠ 0) := by
    intro u hu
    by_cases e : u = w
    · exact Or.inl e
    · rw [upd_other _ _ _ _ e] at hu; exact Or.inr ⟨e, hu⟩
  have oS : ∀ u, u ∈ stk → upd ord w (vis + 1) u = ord u := fun u hu => upd_other _ _ _ _ (hne u hu)
  have lS : ∀ u, u ∈ stk → upd low w (vis + 1) u = low u := fun u hu => upd_other _ _ _ _ (hne u hu)
  have ple : ∀ p, p ∈ ((v, k) :: rest) → ord p.1 ≤ ord v := by
    intro p hp
    have := h.psort
    simp only [List.map_cons, List.pairwise_cons] at this
    rcases List.mem_cons.1 hp with rfl | hp
    · exact Nat.le_refl _
    · exact Nat.le_of_lt (this.1 p.1 (List.mem_map_of_mem hp))
  -- the new path's frames are the old ones' names
  have hpn : ∀ p, p ∈ ((w, 0) :: (v, k + 1) :: rest) → p = (w, 0) ∨ (∃ q, q ∈ ((v, k) :: rest) ∧ q.1 = p.1) := by
    intro p hp
    rcases List.mem_cons.1 hp with rfl | hp
    · exact Or.inl rfl
    · rcases List.mem_cons.1 hp with rfl | hp
      · exact Or.inr ⟨(v, k), by simp, rfl⟩
      · exact Or.inr ⟨p, by simp [hp], rfl⟩
  have hpo : ∀ q, q ∈ ((v, k) :: rest) → ∃ p, p ∈ ((w, 0) :: (v, k + 1) :: rest) ∧ p.1 = q.1 := by
    intro q hq
    rcases List.mem_cons.1 hq with rfl | hq
    · exact ⟨(v, k + 1), by simp, rfl⟩
    · exact ⟨q, by simp [hq], rfl⟩
  have hqs : ∀ q, q ∈ ((v, k) :: rest) → q.1 ∈ stk := h.pstk
  refine ⟨?_, ?_, ?_, ?_, ?_, ?_, ?_, ?_, ?_, ?_, ?_, ?_, ?_, ?_, ?_⟩
  · intro u hu
    rcases ho u hu with rfl | ⟨e, h1⟩
    · rw [upd_same]; exact ⟨hwn, Nat.le_refl _⟩
    · rw [upd_other _ _ _ _ e]; have := h.olt u h1; omega
  · intro u x hu hux
    rcases ho u hu with rfl | ⟨e, h1⟩
    · rw [upd_same] at hux
      by_cases e' : x = u
      · exact e'.symm
      · rw [upd_other _ _ _ _ e'] at hux
        have := (h.olt x (by omega)).2; omega
    · rw [upd_other _ _ _ _ e] at hux
      by_cases e' : x = w
      · subst e'; rw [upd_same] at hux; have := (h.olt u h1).2; omega
      · rw [upd_other _ _ _ _ e'] at hux; exact h.oinj u x h1 hux
  · intro u hu
    rcases List.mem_cons.1 hu with rfl | hu
    · rw [upd_same]; omega
    · rw [oS u hu]; exact h.ovis u hu
  · rw [List.pairwise_cons]
    refine ⟨fun u hu => ?_, ?_⟩
    · rw [upd_same, oS u hu]; have := (h.olt u (h.ovis u hu)).2; omega
    · exact List.Pairwise.imp_of_mem (fun {a b} ha hb hab => by rw [oS a ha, oS b hb]; exact hab) h.ssort
  · have := h.psort
    simp only [List.map_cons, List.pairwise_cons] at this ⊢
    refine ⟨?_, ?_, ?_⟩
    · intro u hu
      have hus : u ∈ stk := by
        rcases List.mem_cons.1 hu with rfl | hu
        · exact hvs
        · obtain ⟨q, hq, rfl⟩ := List.mem_map.1 hu
          exact hqs q (by simp [hq])
      rw [upd_same, oS u hus]; have := (h.olt u (h.ovis u hus)).2; omega
    · intro u hu
      obtain ⟨q, hq, rfl⟩ := List.mem_map.1 hu
      rw [oS v hvs, oS q.1 (hqs q (by simp [hq]))]
      exact this.1 q.1 (List.mem_map_of_mem hq)
    · refine List.Pairwise.imp_of_mem (fun {a b} ha hb hab => ?_) this.2
      obtain ⟨q, hq, rfl⟩ := List.mem_map.1 ha
      obtain ⟨q', hq', rfl⟩ := List.mem_map.1 hb
      rw [oS q.1 (hqs q (by simp [hq])), oS q'.1 (hqs q' (by simp [hq']))]; exact hab
  · intro p hp
    rcases hpn p hp with rfl | ⟨q, hq, e⟩
    · simp
    · rw [← e]; exact List.mem_cons_of_mem _ (hqs q hq)
  · intro p hp
    rcases List.mem_cons.1 hp with rfl | hp
    · simp
    · rcases List.mem_cons.1 hp with rfl | hp
      · show k + 1 ≤ (d v).length; omega
      · exact h.pidx p (by simp [hp])
  · intro p hp x hx hle
    rcases hpn p hp with rfl | ⟨q, hq, e⟩
    · rcases List.mem_cons.1 hx with rfl | hx
      · exact Reach.refl _ _
      · rw [upd_same, oS x hx] at hle; have := (h.olt x (h.ovis x hx)).2; omega
    · rw [← e] at hle ⊢
      rcases List.mem_cons.1 hx with rfl | hx
      · exact (h.i1 q hq v hvs (ple q hq)).trans (Reach.step hwd)
      · rw [oS q.1 (hqs q hq), oS x hx] at hle; exact h.i1 q hq x hx hle
  · intro x hx
    rcases List.mem_cons.1 hx with rfl | hx
    · exact ⟨(x, 0), by simp, Nat.le_refl _, Reach.refl _ _⟩
    · obtain ⟨q, hq, h1, h2⟩ := h.i2 x hx
      obtain ⟨p, hp, e⟩ := hpo q hq
      refine ⟨p, hp, ?_, ?_⟩
      · rw [e, oS q.1 (hqs q hq), oS x hx]; exact h1
      · rw [e]; exact h2
  · intro x hx
    rcases List.mem_cons.1 hx with rfl | hx
    · rw [upd_same, upd_same]; exact ⟨Nat.le_refl _, x, by simp, Reach.refl _ _, by rw [upd_same]⟩
    · obtain ⟨h1, y, hy, h2, h3⟩ := h.i3 x hx
      rw [oS x hx, lS x hx]
      exact ⟨h1, y, by simp [hy], h2, by rw [oS y hy]; exact h3⟩
  · intro x hx hn y hy
    rcases List.mem_cons.1 hx with rfl | hx
    · simp at hn
    · have hn' : x ∉ ((v, k) :: rest).map (·.1) := by simp at hn ⊢; exact ⟨hn.2.1, hn.2.2⟩
      obtain ⟨a, b⟩ := h.i4 x hx hn' y hy
      have ey : y ≠ w := fun e => a (by rw [e]; exact h0)
      rw [upd_other _ _ _ _ ey, lS x hx]
      refine ⟨a, fun hys => b ?_⟩
      rcases List.mem_cons.1 hys with e | hys
      · exact absurd e ey
      · exact hys
  · refine ⟨fun i hi => by simp at hi, ?_⟩
    obtain ⟨a, b⟩ := h.i4p
    refine ⟨fun i hi x hx => ?_, ?_⟩
    · show upd ord w (vis + 1) x ≠ 0 ∧ (x ∈ w :: stk → upd low w (vis + 1) v ≤ upd ord w (vis + 1) x ∨ some w = some x)
      by_cases e : x = w
      · subst e; rw [upd_same]; exact ⟨by omega, fun _ => Or.inr rfl⟩
      · have hik : i < k := by
          rcases Nat.lt_or_ge i k with h1 | h1
          · exact h1
          · have : i = k := by have : i < k + 1 := hi; omega
            subst this
            have hx' : (d v)[i]? = some x := hx
            rw [hw] at hx'; exact absurd (Option.some.inj hx').symm e
        obtain ⟨a1, a2⟩ := a i hik x hx
        rw [upd_other _ _ _ _ e, lS v hvs]
        refine ⟨a1, fun hxs => Or.inl ?_⟩
        rcases List.mem_cons.1 hxs with e' | hxs
        · exact absurd e' e
        · rcases a2 hxs with h1 | h1
          · exact h1
          · cases h1
    · refine PathOk.mono (fun u => u ∈ stk) (fun u x hu hx hl => ?_) (fun x hx => ?_) rest (some v) (fun p hp => hqs p (by simp [hp])) b
      · have ex : x ≠ w := fun e => hx (by rw [e]; exact h0)
        rw [upd_other _ _ _ _ ex, lS u hu]
        refine ⟨hx, fun hxs => hl ?_⟩
        rcases List.mem_cons.1 hxs with e | hxs
        · exact absurd e ex
        · exact hxs
      · have ex : x ≠ w := fun e => hx (by rw [e]; exact h0)
        rw [upd_other _ _ _ _ ex]; exact hx
  · intro u hu hn p hp hle hmax
    rcases List.mem_cons.1 hu with rfl | hu
    · simp at hn
    · have hn' : u ∉ ((v, k) :: rest).map (·.1) := by simp at hn ⊢; exact ⟨hn.2.1, hn.2.2⟩
      rcases hpn p hp with rfl | ⟨q, hq, e⟩
      · rw [upd_same, oS u hu] at hle; have := (h.olt u (h.ovis u hu)).2; omega
      · rw [← e] at hle hmax ⊢
        rw [oS q.1 (hqs q hq), oS u hu] at hle
        rw [lS q.1 (hqs q hq), lS u hu]
        refine h.i5 u hu hn' q hq hle (fun q' hq' hle' => ?_)
        obtain ⟨p', hp', e'⟩ := hpo q' hq'
        have := hmax p' hp' (by rw [e', oS q'.1 (hqs q' hq'), oS u hu]; exact hle')
        rw [e', oS q'.1 (hqs q' hq'), oS q.1 (hqs q hq)] at this
        exact this
  · intro u hu hn
    have hn' : u ≠ w ∧ u ∉ stk := by simpa using hn
    rcases ho u hu with e' | ⟨_, h1⟩
    · exact absurd e' hn'.1
    · obtain ⟨a, b⟩ := h.shut u h1 hn'.2
      refine ⟨fun x hx => ?_, b⟩
      obtain ⟨a1, a2, a3⟩ := a x hx
      have ex : x ≠ w := fun e => a1 (by rw [e]; exact h0)
      rw [upd_other _ _ _ _ ex]; exact ⟨a1, by simp [ex, a2], a3⟩
  · intro u x hu hun hx hxn
    have hn1 : u ≠ w ∧ u ∉ stk := by simpa using hun
    have hn2 : x ≠ w ∧ x ∉ stk := by simpa using hxn
    rcases ho u hu with e | ⟨_, h1⟩
    · exact absurd e hn1.1
    rcases ho x hx with e | ⟨_, h2⟩
    · exact absurd e hn2.1
    exact h.cls u x h1 hn1.2 h2 hn2.2

/-- The top of the path has the greatest order of the path. -/
theorem TI.top {v k : Nat} {rest : List (Nat × Nat)} (h : TI n d ord low cmp stk nc vis ((v, k) :: rest)) : ∀ p, p ∈ ((v, k) :: rest) → ord p.1 ≤ ord v := by
  intro p hp
  have := h.psort
  simp only [List.map_cons, List.pairwise_cons] at this
  rcases List.mem_cons.1 hp with rfl | hp
  · exact Nat.le_refl _
  · exact Nat.le_of_lt (this.1 p.1 (List.mem_map_of_mem hp))

/-- T2, T3: an edge to a name visited: its order counts where it is open. -/
theorem TI.edge {v k : Nat} {rest : List (Nat × Nat)} (h : TI n d ord low cmp stk nc vis ((v, k) :: rest)) (w : Nat) (hw : (d v)[k]? = some w) (h0 : ord w ≠ 0)
    (l : Nat) (hl : l = if w ∈ stk then min (low v) (ord w) else low v) :
    TI n d ord (upd low v l) cmp stk nc vis ((v, k + 1) :: rest) := by
  have hk : k < (d v).length := (List.getElem?_eq_some_iff.1 hw).1
  have hwd : w ∈ d v := List.mem_of_getElem? hw
  have hvs : v ∈ stk := h.pstk (v, k) (by simp)
  have hle : l ≤ low v := by rw [hl]; split <;> omega
  have lle : ∀ u, upd low v l u ≤ low u := by
    intro u
    by_cases e : u = v
    · subst e; rw [upd_same]; exact hle
    · rw [upd_other _ _ _ _ e]; exact Nat.le_refl _
  have hvr : v ∉ rest.map (·.1) := by
    have := h.psort
    simp only [List.map_cons, List.pairwise_cons] at this
    intro hv
    exact Nat.lt_irrefl _ (this.1 v hv)
  have hpn : ∀ p, p ∈ ((v, k + 1) :: rest) → ∃ q, q ∈ ((v, k) :: rest) ∧ q.1 = p.1 := by
    intro p hp
    rcases List.mem_cons.1 hp with rfl | hp
    · exact ⟨(v, k), by simp, rfl⟩
    · exact ⟨p, by simp [hp], rfl⟩
  have hpo : ∀ q, q ∈ ((v, k) :: rest) → ∃ p, p ∈ ((v, k + 1) :: rest) ∧ p.1 = q.1 := by
    intro q hq
    rcases List.mem_cons.1 hq with rfl | hq
    · exact ⟨(v, k + 1), by simp, rfl⟩
    · exact ⟨q, by simp [hq], rfl⟩
  refine ⟨h.olt, h.oinj, h.ovis, h.ssort, h.psort, ?_, ?_, ?_, ?_, ?_, ?_, ?_, ?_, h.shut, h.cls⟩
  · intro p hp; obtain ⟨q, hq, e⟩ := hpn p hp; rw [← e]; exact h.pstk q hq
  · intro p hp
    rcases List.mem_cons.1 hp with rfl | hp
    · show k + 1 ≤ (d v).length; omega
    · exact h.pidx p (by simp [hp])
  · intro p hp x hx hx'; obtain ⟨q, hq, e⟩ := hpn p hp; rw [← e] at hx' ⊢; exact h.i1 q hq x hx hx'
  · intro x hx
    obtain ⟨q, hq, h1, h2⟩ := h.i2 x hx
    obtain ⟨p, hp, e⟩ := hpo q hq
    exact ⟨p, hp, by rw [e]; exact h1, by rw [e]; exact h2⟩
  · intro x hx
    obtain ⟨h1, y, hy, h2, h3⟩ := h.i3 x hx
    by_cases e : x = v
    · subst e
      rw [upd_same]
      by_cases hws : w ∈ stk
      · rw [if_pos hws] at hl
        by_cases hm : low x ≤ ord w
        · have : l = low x := by omega
          rw [this]; exact ⟨h1, y, hy, h2, h3⟩
        · have : l = ord w := by omega
          rw [this]; exact ⟨by omega, w, hws, Reach.step hwd, rfl⟩
      · rw [if_neg hws] at hl; rw [hl]; exact ⟨h1, y, hy, h2, h3⟩
    · rw [upd_other _ _ _ _ e]; exact ⟨h1, y, hy, h2, h3⟩
  · intro x hx hn y hy
    have ex : x ≠ v := fun e => hn (by simp [e])
    have hn' : x ∉ ((v, k) :: rest).map (·.1) := by simpa using hn
    rw [upd_other _ _ _ _ ex]; exact h.i4 x hx hn' y hy
  · obtain ⟨a, b⟩ := h.i4p
    refine ⟨fun i hi x hx => ?_, ?_⟩
    · show ord x ≠ 0 ∧ (x ∈ stk → upd low v l v ≤ ord x ∨ none = some x)
      rw [upd_same]
      by_cases hik : i < k
      · obtain ⟨a1, a2⟩ := a i hik x hx
        refine ⟨a1, fun hs => Or.inl ?_⟩
        rcases a2 hs with h1 | h1
        · exact Nat.le_trans hle h1
        · cases h1
      · have : i = k := by have : i < k + 1 := hi; omega
        subst this
        have hx' : (d v)[i]? = some x := hx
        rw [hw] at hx'
        have e := Option.some.inj hx'
        subst e
        refine ⟨h0, fun hs => Or.inl ?_⟩
        rw [if_pos hs] at hl; omega
    · refine PathOk.mono (fun u => u ≠ v) (fun u x hu hx hlx => ?_) (fun x hx => hx) rest (some v) (fun p hp e => hvr (by rw [← e]; exact List.mem_map_of_mem hp)) b
      rw [upd_other _ _ _ _ hu]; exact ⟨hx, hlx⟩
  · intro u hu hn p hp hle' hmax
    have ex : u ≠ v := fun e => hn (by simp [e])
    have hn' : u ∉ ((v, k) :: rest).map (·.1) := by simpa using hn
    obtain ⟨q, hq, e⟩ := hpn p hp
    rw [← e] at hle' hmax ⊢
    rw [upd_other _ _ _ _ ex]
    refine Nat.le_trans (lle _) (h.i5 u hu hn' q hq hle' (fun q' hq' hle'' => ?_))
    obtain ⟨p', hp', e'⟩ := hpo q' hq'
    have := hmax p' hp' (by rw [e']; exact hle'')
    rw [e'] at this; exact this

/-- T4: the top is done and reaches below itself: it stays open, its parent takes its low. -/
theorem TI.finish {v k : Nat} {rest : List (Nat × Nat)} (h : TI n d ord low cmp stk nc vis ((v, k) :: rest)) (hk : k = (d v).length) (hlow : low v ≠ ord v) :
    ∃ u j rest', rest = (u, j) :: rest' ∧ TI n d ord (upd low u (min (low u) (low v))) cmp stk nc vis rest := by
  have hvs : v ∈ stk := h.pstk (v, k) (by simp)
  have hps := h.psort
  simp only [List.map_cons, List.pairwise_cons] at hps
  obtain ⟨hlv, x, hx, hvx, hox⟩ := h.i3 v hvs
  obtain ⟨p, hp, hpx, hxp⟩ := h.i2 x hx
  have hpv : p ≠ (v, k) := fun e => by rw [e] at hpx; simp only at hpx; omega
  have hpr : p ∈ rest := by
    rcases List.mem_cons.1 hp with e | hp
    · exact absurd e hpv
    · exact hp
  cases rest with
  | nil => cases hpr
  | cons q rest' =>
    obtain ⟨u, j⟩ := q
    refine ⟨u, j, rest', rfl, ?_⟩
    have hus : u ∈ stk := h.pstk (u, j) (by simp)
    have huv : ord u < ord v := hps.1 u (by simp)
    have hne : u ≠ v := fun e => by rw [e] at huv; omega
    have hvr : v ∉ ((u, j) :: rest').map (·.1) := fun hv => Nat.lt_irrefl _ (hps.1 v hv)
    obtain ⟨hu1, xu, hxu, hu2, hu3⟩ := h.i3 u hus
    have hpr' : ∀ p, p ∈ ((u, j) :: rest') → p ∈ ((v, k) :: (u, j) :: rest') := fun p hp => List.mem_cons_of_mem _ hp
    have lle : ∀ y, upd low u (min (low u) (low v)) y ≤ low y := by
      intro y
      by_cases e : y = u
      · subst e; rw [upd_same]; omega
      · rw [upd_other _ _ _ _ e]; exact Nat.le_refl _
    have hutop : ∀ p, p ∈ ((u, j) :: rest') → ord p.1 ≤ ord u := by
      intro p hp
      have := hps.2
      simp only [List.map_cons, List.pairwise_cons] at this
      rcases List.mem_cons.1 hp with rfl | hp
      · exact Nat.le_refl _
      · exact Nat.le_of_lt (this.1 p.1 (List.mem_map_of_mem hp))
    have huv' : Reach d u v := h.i1 (u, j) (by simp) v hvs (by show ord u ≤ ord v; omega)
    have hvp : Reach d v p.1 := hvx.trans hxp
    refine ⟨h.olt, h.oinj, h.ovis, h.ssort, hps.2, fun p hp => h.pstk p (hpr' p hp), fun p hp => h.pidx p (hpr' p hp), fun p hp => h.i1 p (hpr' p hp), ?_, ?_, ?_, ?_, ?_, h.shut, h.cls⟩
    · intro y hy
      obtain ⟨q, hq, h1, h2⟩ := h.i2 y hy
      rcases List.mem_cons.1 hq with rfl | hq
      · refine ⟨p, hpr, ?_, h2.trans hvp⟩
        have : ord p.1 ≤ ord u := hutop p hpr
        simp only at h1
        omega
      · exact ⟨q, hq, h1, h2⟩
    · intro y hy
      obtain ⟨h1, z, hz, h2, h3⟩ := h.i3 y hy
      by_cases e : y = u
      · subst e
        rw [upd_same]
        by_cases hm : low y ≤ low v
        · rw [Nat.min_eq_left hm]; exact ⟨h1, z, hz, h2, h3⟩
        · rw [Nat.min_eq_right (by omega)]
          exact ⟨by omega, x, hx, huv'.trans hvx, hox⟩
      · rw [upd_other _ _ _ _ e]; exact ⟨h1, z, hz, h2, h3⟩
    · intro y hy hn z hz
      have ey : y ≠ u := fun e => hn (by simp [e])
      rw [upd_other _ _ _ _ ey]
      by_cases e : y = v
      · subst e
        obtain ⟨i, hi⟩ := List.getElem?_of_mem hz
        have hil : i < (d y).length := (List.getElem?_eq_some_iff.1 hi).1
        obtain ⟨a1, a2⟩ := h.i4p.1 i (by show i < k; omega) z hi
        refine ⟨a1, fun hs => ?_⟩
        rcases a2 hs with h1 | h1
        · exact h1
        · cases h1
      · have hn' : y ∉ ((v, k) :: (u, j) :: rest').map (·.1) := by
          intro hm
          rcases List.mem_cons.1 hm with e' | hm
          · exact e e'
          · exact hn hm
        exact h.i4 y hy hn' z hz
    · obtain ⟨_, a, b⟩ := h.i4p
      refine ⟨fun i hi y hy => ?_, ?_⟩
      · show ord y ≠ 0 ∧ (y ∈ stk → upd low u (min (low u) (low v)) u ≤ ord y ∨ none = some y)
        rw [upd_same]
        obtain ⟨a1, a2⟩ := a i hi y hy
        refine ⟨a1, fun hs => Or.inl ?_⟩
        rcases a2 hs with h1 | h1
        · have : low u ≤ ord y := h1
          omega
        · have : v = y := Option.some.inj h1
          subst this
          omega
      · refine PathOk.mono (fun z => z ≠ u) (fun z y hz hy hly => ?_) (fun y hy => hy) rest' (some u) (fun p hp e => ?_) b
        · rw [upd_other _ _ _ _ hz]; exact ⟨hy, hly⟩
        · have := hps.2
          simp only [List.map_cons, List.pairwise_cons] at this
          have := this.1 p.1 (List.mem_map_of_mem hp)
          rw [e] at this; omega
    · intro y hy hn q hq hle hmax
      have ey : y ≠ u := fun e => hn (by simp [e])
      rw [upd_other _ _ _ _ ey]
      by_cases e : y = v
      · subst e
        -- the last of the path at or below v is u
        have hqu : ord u ≤ ord q.1 := hmax (u, j) (by simp) (by show ord u ≤ ord y; omega)
        have hqe : q.1 = u := h.oinj q.1 u (h.ovis q.1 (h.pstk q (hpr' q hq))) (by have := hutop q hq; omega)
        rw [hqe, upd_same]; omega
      · have hn' : y ∉ ((v, k) :: (u, j) :: rest').map (·.1) := by
          intro hm
          rcases List.mem_cons.1 hm with e' | hm
          · exact e e'
          · exact hn hm
        by_cases hvy : ord v ≤ ord y
        · have h5 := h.i5 y hy hn' (v, k) (by simp) hvy (fun q' hq' _ => h.top q' hq')
          have hqu : ord u ≤ ord q.1 := hmax (u, j) (by simp) (by show ord u ≤ ord y; omega)
          have hqe : q.1 = u := h.oinj q.1 u (h.ovis q.1 (h.pstk q (hpr' q hq))) (by have := hutop q hq; omega)
          rw [hqe, upd_same]
          simp only at h5
          omega
        · refine Nat.le_trans (lle _) (h.i5 y hy hn' q (hpr' q hq) hle (fun q' hq' hle' => ?_))
          rcases List.mem_cons.1 hq' with rfl | hq'
          · exact absurd hle' hvy
          · exact hmax q' hq' hle'

/-- T5: the top is done and reaches nothing below itself: the names open from it on are a component. -/
theorem TI.close {v k : Nat} {rest : List (Nat × Nat)} (h : TI n d ord low cmp stk nc vis ((v, k) :: rest)) (hk : k = (d v).length) (hlow : low v = ord v)
    (pre suf : List Nat) (hs : stk = pre ++ v :: suf) (cmp' : Nat → Nat) (hc1 : ∀ u, u ∈ pre ++ [v] → cmp' u = nc) (hc2 : ∀ u, u ∉ pre ++ [v] → cmp' u = cmp u) :
    TI n d ord low cmp' suf (nc + 1) vis rest ∧ (∀ u j rest', rest = (u, j) :: rest' → min (low u) (low v) = low u) := by
  have hvs : v ∈ stk := h.pstk (v, k) (by simp)
  have hps := h.psort
  simp only [List.map_cons, List.pairwise_cons] at hps
  have hss := h.ssort
  rw [hs, List.pairwise_append] at hss
  obtain ⟨_, hss2, hss3⟩ := hss
  rw [List.pairwise_cons] at hss2
  -- the names closed: those of order at or above v's
  have inS : ∀ u, u ∈ pre ++ [v] → u ∈ stk ∧ ord v ≤ ord u := by
    intro u hu
    rw [List.mem_append] at hu
    rcases hu with hu | hu
    · exact ⟨by rw [hs]; simp [hu], Nat.le_of_lt (hss3 u hu v (by simp))⟩
    · simp at hu; subst hu; exact ⟨hvs, Nat.le_refl _⟩
  have suflt : ∀ u, u ∈ suf → ord u < ord v := hss2.1
  have sufS : ∀ u, u ∈ suf → u ∈ stk := fun u hu => by rw [hs]; simp [hu]
  have split : ∀ u, u ∈ stk → u ∈ pre ++ [v] ∨ u ∈ suf := by
    intro u hu
    rw [hs] at hu
    rw [List.mem_append]
    rcases List.mem_append.1 hu with hu | hu
    · exact Or.inl (Or.inl hu)
    · rcases List.mem_cons.1 hu with rfl | hu
      · exact Or.inl (Or.inr (by simp))
      · exact Or.inr hu
  have notboth : ∀ u, u ∈ pre ++ [v] → u ∉ suf := fun u hu hu' => by have := (inS u hu).2; have := suflt u hu'; omega
  have hrest : ∀ p, p ∈ rest → ord p.1 < ord v := fun p hp => hps.1 p.1 (List.mem_map_of_mem hp)
  have hpsuf : ∀ p, p ∈ rest → p.1 ∈ suf := by
    intro p hp
    rcases split p.1 (h.pstk p (by simp [hp])) with h1 | h1
    · have := (inS p.1 h1).2; have := hrest p hp; omega
    · exact h1
  -- the component's edges lead into it or to what is closed
  have hedge : ∀ u, u ∈ pre ++ [v] → ∀ x, x ∈ d u → ord x ≠ 0 ∧ (x ∈ stk → x ∈ pre ++ [v]) := by
    intro u hu x hx
    obtain ⟨hus, huo⟩ := inS u hu
    have key : ord x ≠ 0 ∧ (x ∈ stk → low u ≤ ord x) ∧ ord v ≤ low u := by
      by_cases e : u = v
      · subst e
        obtain ⟨i, hi⟩ := List.getElem?_of_mem hx
        have hil : i < (d u).length := (List.getElem?_eq_some_iff.1 hi).1
        obtain ⟨a1, a2⟩ := h.i4p.1 i (by show i < k; omega) x hi
        refine ⟨a1, fun hs => ?_, by omega⟩
        rcases a2 hs with h1 | h1
        · exact h1
        · cases h1
      · have hn : u ∉ ((v, k) :: rest).map (·.1) := by
          intro hm
          rcases List.mem_cons.1 hm with e' | hm
          · exact e e'
          · obtain ⟨p, hp, e'⟩ := List.mem_map.1 hm
            have h1 : p.1 = u := e'
            have := hrest p hp; rw [h1] at this; omega
        obtain ⟨a1, a2⟩ := h.i4 u hus hn x hx
        have h5 := h.i5 u hus hn (v, k) (by simp) huo (fun q hq _ => h.top q hq)
        simp only at h5
        exact ⟨a1, a2, by omega⟩
    refine ⟨key.1, fun hxs => ?_⟩
    rcases split x hxs with h1 | h1
    · exact h1
    · have := key.2.1 hxs; have := suflt x h1; omega
  -- all of the component reach one another
  have hto : ∀ u, u ∈ pre ++ [v] → Reach d v u ∧ Reach d u v := by
    intro u hu
    obtain ⟨hus, huo⟩ := inS u hu
    refine ⟨h.i1 (v, k) (by simp) u hus huo, ?_⟩
    obtain ⟨p, hp, _, h2⟩ := h.i2 u hus
    exact h2.trans (h.i1 p hp v hvs (h.top p hp))
  have hclosed : ∀ u, ord u ≠ 0 → u ∉ stk → ∀ x, Reach d u x → ord x ≠ 0 ∧ x ∉ stk := by
    intro u hu hun x hux
    exact Reach.shut (fun y => ord y ≠ 0 ∧ y ∉ stk) (fun y hy z hz => by have := (h.shut y hy.1 hy.2).1 z hz; exact ⟨this.1, this.2.1⟩) hux ⟨hu, hun⟩
  have hcomp : ∀ u, u ∈ pre ++ [v] → ∀ x, Reach d u x → x ∈ pre ++ [v] ∨ (ord x ≠ 0 ∧ x ∉ stk) := by
    intro u hu x hux
    refine Reach.shut (fun y => y ∈ pre ++ [v] ∨ (ord y ≠ 0 ∧ y ∉ stk)) (fun y hy z hz => ?_) hux (Or.inl hu)
    rcases hy with hy | hy
    · obtain ⟨a, b⟩ := hedge y hy z hz
      by_cases hzs : z ∈ stk
      · exact Or.inl (b hzs)
      · exact Or.inr ⟨a, hzs⟩
    · have := (h.shut y hy.1 hy.2).1 z hz; exact Or.inr ⟨this.1, this.2.1⟩
  have hnew : ∀ u, ord u ≠ 0 → u ∉ suf → u ∈ pre ++ [v] ∨ (u ∉ stk ∧ u ∉ pre ++ [v]) := by
    intro u _ hn
    by_cases hus : u ∈ stk
    · rcases split u hus with h1 | h1
      · exact Or.inl h1
      · exact absurd h1 hn
    · exact Or.inr ⟨hus, fun hp => hus (inS u hp).1⟩
  refine ⟨⟨h.olt, h.oinj, fun u hu => h.ovis u (sufS u hu), hss2.2, hps.2, hpsuf, fun p hp => h.pidx p (by simp [hp]), fun p hp x hx => h.i1 p (by simp [hp]) x (sufS x hx), ?_, ?_, ?_, ?_, ?_, ?_, ?_⟩, ?_⟩
  · intro x hx
    obtain ⟨q, hq, h1, h2⟩ := h.i2 x (sufS x hx)
    rcases List.mem_cons.1 hq with rfl | hq
    · have := suflt x hx; simp only at h1; omega
    · exact ⟨q, hq, h1, h2⟩
  · intro x hx
    obtain ⟨h1, y, hy, h2, h3⟩ := h.i3 x (sufS x hx)
    refine ⟨h1, y, ?_, h2, h3⟩
    rcases split y hy with h4 | h4
    · have := (inS y h4).2; have := suflt x hx; omega
    · exact h4
  · intro x hx hn y hy
    have ex : x ≠ v := fun e => by have := suflt x hx; rw [e] at this; omega
    have hn' : x ∉ ((v, k) :: rest).map (·.1) := by
      intro hm
      rcases List.mem_cons.1 hm with e' | hm
      · exact ex e'
      · exact hn hm
    obtain ⟨a, b⟩ := h.i4 x (sufS x hx) hn' y hy
    exact ⟨a, fun hs => b (sufS y hs)⟩
  · obtain ⟨_, b⟩ := h.i4p
    cases rest with
    | nil => trivial
    | cons q rest' =>
      obtain ⟨a, c⟩ := b
      refine ⟨fun i hi x hx => ?_, ?_⟩
      · obtain ⟨a1, a2⟩ := a i hi x hx
        refine ⟨a1, fun hxs => ?_⟩
        rcases a2 (sufS x hxs) with h1 | h1
        · exact Or.inl h1
        · have : v = x := Option.some.inj h1
          subst this
          have := suflt v hxs; omega
      · exact PathOk.mono (fun _ => True) (fun u x _ hx hl => ⟨hx, fun hs => hl (sufS x hs)⟩) (fun x hx => hx) rest' (some q.1) (fun _ _ => trivial) c
  · intro u hu hn p hp hle hmax
    have ex : u ≠ v := fun e => by have := suflt u hu; rw [e] at this; omega
    have hn' : u ∉ ((v, k) :: rest).map (·.1) := by
      intro hm
      rcases List.mem_cons.1 hm with e' | hm
      · exact ex e'
      · exact hn hm
    refine h.i5 u (sufS u hu) hn' p (by simp [hp]) hle (fun q hq hle' => ?_)
    rcases List.mem_cons.1 hq with rfl | hq
    · have := suflt u hu; simp only at hle'; omega
    · exact hmax q hq hle'
  · intro u hu hn
    rcases hnew u hu hn with hp | ⟨h1, h2⟩
    · rw [hc1 u hp]
      refine ⟨fun x hx => ?_, by omega⟩
      obtain ⟨a, b⟩ := hedge u hp x hx
      refine ⟨a, fun hxs => ?_, ?_⟩
      · have := b (sufS x hxs); exact notboth x this hxs
      · by_cases hxp : x ∈ pre ++ [v]
        · rw [hc1 x hxp]; exact Nat.le_refl _
        · rw [hc2 x hxp]
          have hxs : x ∉ stk := fun hs => hxp (b hs)
          exact Nat.le_of_lt (h.shut x a hxs).2
    · obtain ⟨a, b⟩ := h.shut u hu h1
      rw [hc2 u h2]
      refine ⟨fun x hx => ?_, by omega⟩
      obtain ⟨a1, a2, a3⟩ := a x hx
      have hxp : x ∉ pre ++ [v] := fun hp => a2 (inS x hp).1
      rw [hc2 x hxp]
      exact ⟨a1, fun hs => a2 (sufS x hs), a3⟩
  · intro u x hu hun hx hxn
    rcases hnew u hu hun with hp | ⟨h1, h2⟩
    · rcases hnew x hx hxn with hp' | ⟨h1', h2'⟩
      · rw [hc1 u hp, hc1 x hp']
        exact ⟨fun _ => ⟨(hto u hp).2.trans (hto x hp').1, (hto x hp').2.trans (hto u hp).1⟩, fun _ => rfl⟩
      · rw [hc1 u hp, hc2 x h2']
        have := (h.shut x hx h1').2
        refine ⟨fun e => by omega, fun ⟨_, hr⟩ => ?_⟩
        exact absurd (inS u hp).1 (hclosed x hx h1' u hr).2
    · rcases hnew x hx hxn with hp' | ⟨h1', h2'⟩
      · rw [hc2 u h2, hc1 x hp']
        have := (h.shut u hu h1).2
        refine ⟨fun e => by omega, fun ⟨hr, _⟩ => ?_⟩
        exact absurd (inS x hp').1 (hclosed u hu h1 x hr).2
      · rw [hc2 u h2, hc2 x h2']; exact h.cls u x hu h1 hx h1'
  · intro u j rest' e
    have h1 : ord u < ord v := hrest (u, j) (by rw [e]; simp)
    have h2 := (h.i3 u (h.pstk (u, j) (by rw [e]; simp))).1
    omega

/-- The end: every name visited, nothing open: one number a loop, and edges lead to numbers no greater. -/
theorem TI.done (h : TI n d ord low cmp stk nc vis []) (hall : ∀ u, u < n → ord u ≠ 0) :
    (∀ u v, u < n → v < n → (cmp u = cmp v ↔ Reach d u v ∧ Reach d v u)) ∧ (∀ u, u < n → cmp u < nc ∧ ∀ x, x ∈ d u → cmp x ≤ cmp u) := by
  have he := h.empty
  subst he
  refine ⟨fun u v hu hv => h.cls u v (hall u hu) (by simp) (hall v hv) (by simp), fun u hu => ?_⟩
  obtain ⟨a, b⟩ := h.shut u (hall u hu) (by simp)
  exact ⟨b, fun x hx => (a x hx).2.2⟩
end
end Go.Proofs.Qxb6616383a.Plain
