/-
  The search for loops with its stack and its path told by functions of the index, the bottom first. No Go in sight.
-/
import Derived.Test.Qxb6616383aTarjan
namespace Go.Proofs.Qxb6616383a.Plain

def stkL (sl : Nat) (sf : Nat → Nat) : List Nat := ((List.range sl).map sf).reverse
def pathL (m : Nat) (Q : Nat → Nat → Nat) : List (Nat × Nat) := ((List.range m).map (fun i => (Q i 0, Q i 1))).reverse
theorem stkL_succ (sl : Nat) (sf : Nat → Nat) : stkL (sl + 1) sf = sf sl :: stkL sl sf := by simp [stkL, List.range_succ]
theorem pathL_succ (m : Nat) (Q : Nat → Nat → Nat) : pathL (m + 1) Q = (Q m 0, Q m 1) :: pathL m Q := by simp [pathL, List.range_succ]
theorem stkL_congr {sl : Nat} {sf sg : Nat → Nat} (h : ∀ i, i < sl → sf i = sg i) : stkL sl sf = stkL sl sg := by
  unfold stkL
  rw [List.map_congr_left (fun i hi => h i (by simpa using hi))]
theorem pathL_congr {m : Nat} {Q R : Nat → Nat → Nat} (h : ∀ i, i < m → Q i 0 = R i 0 ∧ Q i 1 = R i 1) : pathL m Q = pathL m R := by
  unfold pathL
  rw [List.map_congr_left (fun i hi => by rw [(h i (by simpa using hi)).1, (h i (by simpa using hi)).2])]
theorem mem_stkL {sl : Nat} {sf : Nat → Nat} {u : Nat} : u ∈ stkL sl sf ↔ ∃ i, i < sl ∧ sf i = u := by simp [stkL]
theorem stkL_push (sl : Nat) (sf : Nat → Nat) (x : Nat) : stkL (sl + 1) (upd sf sl x) = x :: stkL sl sf := by
  rw [stkL_succ, upd_same]
  congr 1
  exact stkL_congr (fun i hi => upd_other _ _ _ _ (by omega))
/-- How many are not visited yet. -/
def unv (ord : Nat → Nat) : Nat → Nat
  | 0 => 0
  | n + 1 => unv ord n + (if ord n = 0 then 1 else 0)
theorem unv_upd {ord : Nat → Nat} {x z : Nat} (hz : z ≠ 0) (h0 : ord x = 0) : ∀ n, unv (upd ord x z) n + (if x < n then 1 else 0) = unv ord n := by
  intro n
  induction n with
  | zero => simp [unv]
  | succ n ih =>
    simp only [unv]
    by_cases h1 : x < n
    · rw [if_pos h1] at ih
      rw [if_pos (show x < n + 1 by omega), upd_other _ _ _ _ (show n ≠ x by omega)]; omega
    · rw [if_neg h1] at ih
      by_cases h2 : n = x
      · subst h2
        rw [upd_same, if_neg hz, if_pos (show n < n + 1 by omega), if_pos h0]; omega
      · rw [if_neg (show ¬ x < n + 1 by omega), upd_other _ _ _ _ h2]; omega
theorem unv_zero : ∀ n, unv (fun _ => 0) n = n := by
  intro n
  induction n with
  | zero => rfl
  | succ n ih => simp [unv, ih]
/-- What the names not visited still cost. -/
def uncost (D : Nat → List Nat) (ord : Nat → Nat) : Nat → Nat
  | 0 => 0
  | n + 1 => uncost D ord n + (if ord n = 0 then (D n).length + 2 else 0)
theorem uncost_upd {D : Nat → List Nat} {ord : Nat → Nat} {x z : Nat} (hz : z ≠ 0) (h0 : ord x = 0) : ∀ n, uncost D (upd ord x z) n + (if x < n then (D x).length + 2 else 0) = uncost D ord n := by
  intro n
  induction n with
  | zero => simp [uncost]
  | succ n ih =>
    simp only [uncost]
    by_cases h1 : x < n
    · rw [if_pos h1] at ih
      rw [if_pos (show x < n + 1 by omega), upd_other _ _ _ _ (show n ≠ x by omega)]; omega
    · rw [if_neg h1] at ih
      by_cases h2 : n = x
      · subst h2
        rw [upd_same, if_neg hz, if_pos (show n < n + 1 by omega), if_pos h0]; omega
      · rw [if_neg (show ¬ x < n + 1 by omega), upd_other _ _ _ _ h2]; omega
/-- What the path still costs. -/
def pcost (D : Nat → List Nat) (Q : Nat → Nat → Nat) : Nat → Nat
  | 0 => 0
  | m + 1 => pcost D Q m + ((D (Q m 0)).length - Q m 1 + 1)
theorem pcost_congr {D : Nat → List Nat} {Q R : Nat → Nat → Nat} : ∀ m, (∀ i, i < m → Q i 0 = R i 0 ∧ Q i 1 = R i 1) → pcost D Q m = pcost D R m := by
  intro m
  induction m with
  | zero => intro _; rfl
  | succ m ih => intro h; simp only [pcost]; rw [ih (fun i hi => h i (by omega)), (h m (by omega)).1, (h m (by omega)).2]

structure SI (n : Nat) (D : Nat → List Nat) (ord low cmp : Nat → Nat) (opn : Nat → Bool) (nc vis sl : Nat) (sf : Nat → Nat) (m : Nat) (Q : Nat → Nat → Nat) : Prop where
  ti : TI n D ord low cmp (stkL sl sf) nc vis (pathL m Q)
  op : ∀ u, u < n → (opn u = true ↔ u ∈ stkL sl sf)
  cnt : vis + unv ord n = n
  b1 : nc + sl ≤ vis
  b2 : m ≤ vis
section
variable {n : Nat} {D : Nat → List Nat} {ord low cmp : Nat → Nat} {opn : Nat → Bool} {nc vis sl : Nat} {sf : Nat → Nat} {m : Nat} {Q : Nat → Nat → Nat}
theorem SI.start (n : Nat) (D : Nat → List Nat) (low cmp : Nat → Nat) (sf : Nat → Nat) (Q : Nat → Nat → Nat) : SI n D (fun _ => 0) low cmp (fun _ => false) 0 0 0 sf 0 Q :=
  ⟨TI.start n D low cmp, fun u _ => by simp [stkL], by rw [unv_zero]; omega, by omega, by omega⟩
theorem SI.room (h : SI n D ord low cmp opn nc vis sl sf m Q) {x : Nat} (hx : x < n) (h0 : ord x = 0) : vis + 1 ≤ n := by
  have h1 := unv_upd (z := 1) (by omega) h0 n
  rw [if_pos hx] at h1
  have := h.cnt; omega
theorem SI.lev (h : SI n D ord low cmp opn nc vis sl sf m Q) : vis ≤ n := by have := h.cnt; omega
theorem SI.cnt' (h : SI n D ord low cmp opn nc vis sl sf m Q) {x : Nat} (hx : x < n) (h0 : ord x = 0) : vis + 1 + unv (upd ord x (vis + 1)) n = n := by
  have h1 := unv_upd (z := vis + 1) (by omega) h0 n
  rw [if_pos hx] at h1
  have := h.cnt; omega
theorem SI.root (h : SI n D ord low cmp opn nc vis 0 sf 0 Q) {r : Nat} (hr : r < n) (h0 : ord r = 0) {R : Nat → Nat → Nat} (hR : R 0 0 = r ∧ R 0 1 = 0) :
    SI n D (upd ord r (vis + 1)) (upd low r (vis + 1)) cmp (upd opn r true) nc (vis + 1) 1 (upd sf 0 r) 1 R := by
  have e : stkL 1 (upd sf 0 r) = [r] := by rw [stkL_push]; rfl
  have e2 : pathL 1 R = [(r, 0)] := by rw [pathL_succ, hR.1, hR.2]; rfl
  refine ⟨?_, fun u hu => ?_, h.cnt' hr h0, by have := h.b1; omega, by omega⟩
  · rw [e, e2]; exact TI.root h.ti r hr h0
  · rw [e]
    simp only [upd]
    by_cases hu' : u = r
    · simp [hu']
    · rw [if_neg hu', h.op u hu]; simp [stkL, hu']
theorem SI.child (h : SI n D ord low cmp opn nc vis sl sf (m + 1) Q) {x : Nat} (hk : (D (Q m 0))[Q m 1]? = some x) (hx : x < n) (h0 : ord x = 0) {R : Nat → Nat → Nat}
    (hR : ∀ i, i < m → R i 0 = Q i 0 ∧ R i 1 = Q i 1) (hR1 : R m 0 = Q m 0 ∧ R m 1 = Q m 1 + 1) (hR2 : R (m + 1) 0 = x ∧ R (m + 1) 1 = 0) :
    SI n D (upd ord x (vis + 1)) (upd low x (vis + 1)) cmp (upd opn x true) nc (vis + 1) (sl + 1) (upd sf sl x) (m + 2) R := by
  have e2 : pathL (m + 2) R = (x, 0) :: (Q m 0, Q m 1 + 1) :: pathL m Q := by rw [pathL_succ, pathL_succ, hR2.1, hR2.2, hR1.1, hR1.2, pathL_congr hR]
  refine ⟨?_, fun u hu => ?_, h.cnt' hx h0, by have := h.b1; omega, by have := h.b2; omega⟩
  · rw [stkL_push, e2]
    have := h.ti
    rw [pathL_succ] at this
    exact this.child x hk hx h0
  · rw [stkL_push]
    simp only [upd]
    by_cases hu' : u = x
    · simp [hu']
    · rw [if_neg hu', h.op u hu]; simp [hu']
/-- An edge to a name visited. -/
theorem SI.edge (h : SI n D ord low cmp opn nc vis sl sf (m + 1) Q) {x : Nat} (hk : (D (Q m 0))[Q m 1]? = some x) (hx : x < n) (h0 : ord x ≠ 0) {R : Nat → Nat → Nat}
    (hR : ∀ i, i < m → R i 0 = Q i 0 ∧ R i 1 = Q i 1) (hR1 : R m 0 = Q m 0 ∧ R m 1 = Q m 1 + 1) {low' : Nat → Nat} (hl : low' = if opn x = true then upd low (Q m 0) (min (low (Q m 0)) (ord x)) else low) :
    SI n D ord low' cmp opn nc vis sl sf (m + 1) R := by
  have e2 : pathL (m + 1) R = (Q m 0, Q m 1 + 1) :: pathL m Q := by rw [pathL_succ, hR1.1, hR1.2, pathL_congr hR]
  refine ⟨?_, h.op, h.cnt, h.b1, h.b2⟩
  rw [e2]
  have ht := h.ti
  rw [pathL_succ] at ht
  by_cases ho : opn x = true
  · have hm := (h.op x hx).1 ho
    rw [hl, if_pos ho]
    exact ht.edge x hk h0 _ (by rw [if_pos hm])
  · have hm : x ∉ stkL sl sf := fun hm => ho ((h.op x hx).2 hm)
    rw [hl, if_neg ho]
    have := ht.edge x hk h0 (low (Q m 0)) (by rw [if_neg hm])
    have e : upd low (Q m 0) (low (Q m 0)) = low := by funext u; simp only [upd]; split <;> simp_all
    rw [e] at this
    exact this
/-- The top is done, and reaches below itself. -/
theorem SI.finish (h : SI n D ord low cmp opn nc vis sl sf (m + 1) Q) (hk : Q m 1 = (D (Q m 0)).length) (hlow : low (Q m 0) ≠ ord (Q m 0)) :
    0 < m ∧ SI n D ord (upd low (Q (m - 1) 0) (min (low (Q (m - 1) 0)) (low (Q m 0)))) cmp opn nc vis sl sf m Q := by
  have ht := h.ti
  rw [pathL_succ] at ht
  obtain ⟨u, j, rest', e, h2⟩ := ht.finish hk hlow
  cases m with
  | zero => simp [pathL] at e
  | succ m =>
    refine ⟨by omega, ?_, h.op, h.cnt, h.b1, by have := h.b2; omega⟩
    have e' := e
    rw [pathL_succ] at e'
    have eu : u = Q m 0 := by
      have := congrArg Prod.fst (List.cons.inj e').1
      exact this.symm
    rw [eu] at h2
    exact h2
/-- What has been taken off the stack so far: the places sl1 .. sl. -/
structure Popped (sl sl1 : Nat) (sf : Nat → Nat) (v nc : Nat) (opn opn1 : Nat → Bool) (cmp cmp1 : Nat → Nat) : Prop where
  le : sl1 ≤ sl
  off : ∀ u, (∃ i, sl1 ≤ i ∧ i < sl ∧ sf i = u) → opn1 u = false ∧ cmp1 u = nc
  on : ∀ u, (¬ ∃ i, sl1 ≤ i ∧ i < sl ∧ sf i = u) → opn1 u = opn u ∧ cmp1 u = cmp u
theorem Popped.start (sl : Nat) (sf : Nat → Nat) (v nc : Nat) (opn : Nat → Bool) (cmp : Nat → Nat) : Popped sl sl sf v nc opn opn cmp cmp :=
  ⟨Nat.le_refl _, fun u ⟨i, h1, h2, _⟩ => by omega, fun u _ => ⟨rfl, rfl⟩⟩
theorem Popped.step {sl sl1 : Nat} {sf : Nat → Nat} {v nc : Nat} {opn opn1 : Nat → Bool} {cmp cmp1 : Nat → Nat} (h : Popped sl (sl1 + 1) sf v nc opn opn1 cmp cmp1) : Popped sl sl1 sf v nc opn (upd opn1 (sf sl1) false) cmp (upd cmp1 (sf sl1) nc) := by
  refine ⟨by have := h.le; omega, fun u hu => ?_, fun u hu => ?_⟩
  · simp only [upd]
    by_cases e : u = sf sl1
    · simp [e]
    · rw [if_neg e, if_neg e]
      obtain ⟨i, a, b, c⟩ := hu
      refine h.off u ⟨i, ?_, b, c⟩
      by_cases ei : i = sl1
      · subst ei; exact absurd c.symm e
      · omega
  · have e : u ≠ sf sl1 := fun e => hu ⟨sl1, Nat.le_refl _, by have := h.le; omega, e.symm⟩
    simp only [upd]
    rw [if_neg e, if_neg e]
    exact h.on u (fun ⟨i, a, b, c⟩ => hu ⟨i, by omega, b, c⟩)
theorem stkL_split (sl sl2 : Nat) (sf : Nat → Nat) (h : sl2 < sl) : stkL sl sf = ((List.range (sl - sl2 - 1)).map (fun i => sf (sl2 + 1 + i))).reverse ++ sf sl2 :: stkL sl2 sf := by
  obtain ⟨d, rfl⟩ : ∃ d, sl = sl2 + 1 + d := ⟨sl - sl2 - 1, by omega⟩
  rw [show sl2 + 1 + d - sl2 - 1 = d by omega]
  induction d with
  | zero => simp [stkL_succ]
  | succ d ih =>
    rw [show sl2 + 1 + (d + 1) = (sl2 + 1 + d) + 1 by omega, stkL_succ, ih (by omega)]
    simp [List.range_succ]
/-- The top is done, and reaches nothing below itself. -/
theorem SI.close (h : SI n D ord low cmp opn nc vis sl sf (m + 1) Q) (hk : Q m 1 = (D (Q m 0)).length) (hlow : low (Q m 0) = ord (Q m 0)) {sl2 : Nat} (hs : sl2 < sl) (hv : sf sl2 = Q m 0) {opn1 : Nat → Bool} {cmp1 : Nat → Nat}
    (hp : Popped sl sl2 sf (Q m 0) nc opn opn1 cmp cmp1) :
    SI n D ord low cmp1 opn1 (nc + 1) vis sl2 sf m Q ∧ (0 < m → min (low (Q (m - 1) 0)) (low (Q m 0)) = low (Q (m - 1) 0)) := by
  have ht := h.ti
  rw [pathL_succ] at ht
  have hsp := stkL_split sl sl2 sf hs
  rw [hv] at hsp
  have hmem : ∀ u, u ∈ ((List.range (sl - sl2 - 1)).map (fun i => sf (sl2 + 1 + i))).reverse ++ [Q m 0] ↔ ∃ i, sl2 ≤ i ∧ i < sl ∧ sf i = u := by
    intro u
    simp only [List.mem_append, List.mem_reverse, List.mem_map, List.mem_range, List.mem_singleton]
    constructor
    · rintro (⟨i, hi, e⟩ | e)
      · exact ⟨sl2 + 1 + i, by omega, by omega, e⟩
      · exact ⟨sl2, Nat.le_refl _, hs, by rw [hv, e]⟩
    · rintro ⟨i, a, b, c⟩
      by_cases ei : i = sl2
      · subst ei; exact Or.inr (by rw [← c, hv])
      · exact Or.inl ⟨i - sl2 - 1, by omega, by rw [show sl2 + 1 + (i - sl2 - 1) = i by omega, c]⟩
  obtain ⟨h1, h2⟩ := ht.close hk hlow _ _ hsp cmp1 (fun u hu => (hp.off u ((hmem u).1 hu)).2) (fun u hu => (hp.on u (fun hc => hu ((hmem u).2 hc))).2)
  refine ⟨⟨h1, fun u hu => ?_, h.cnt, by have := h.b1; omega, by have := h.b2; omega⟩, fun hm => ?_⟩
  · have hnd := h.ti.ssort
    rw [hsp, List.pairwise_append] at hnd
    obtain ⟨_, hnd2, hnd3⟩ := hnd
    rw [List.pairwise_cons] at hnd2
    by_cases hc : ∃ i, sl2 ≤ i ∧ i < sl ∧ sf i = u
    · rw [(hp.off u hc).1]
      constructor
      · intro e; cases e
      · intro hm
        exfalso
        have := (hmem u).2 hc
        rw [List.mem_append] at this
        rcases this with h3 | h3
        · have := hnd3 u h3 u (by simp [hm]); omega
        · simp only [List.mem_singleton] at h3
          subst h3
          have := hnd2.1 _ hm; omega
    · rw [(hp.on u hc).1, h.op u hu, hsp, List.mem_append, List.mem_cons]
      have hn1 : u ∉ ((List.range (sl - sl2 - 1)).map (fun i => sf (sl2 + 1 + i))).reverse := fun h3 => hc ((hmem u).1 (by rw [List.mem_append]; exact Or.inl h3))
      have hn2 : u ≠ Q m 0 := fun h3 => hc ((hmem u).1 (by rw [List.mem_append]; exact Or.inr (by simp [h3])))
      constructor
      · rintro (h3 | h3 | h3)
        · exact absurd h3 hn1
        · exact absurd h3 hn2
        · exact h3
      · exact fun h3 => Or.inr (Or.inr h3)
  · obtain ⟨k, rfl⟩ : ∃ k, m = k + 1 := ⟨m - 1, by omega⟩
    exact h2 (Q k 0) (Q k 1) (pathL k Q) (pathL_succ k Q)
end
/-! ### The measure falls -/
theorem child_cost {n : Nat} {D : Nat → List Nat} {ord : Nat → Nat} {x z m : Nat} {Q R : Nat → Nat → Nat} (hz : z ≠ 0) (h0 : ord x = 0) (hx : x < n) (hk : Q m 1 < (D (Q m 0)).length)
    (hR : ∀ i, i < m → R i 0 = Q i 0 ∧ R i 1 = Q i 1) (hR1 : R m 0 = Q m 0 ∧ R m 1 = Q m 1 + 1) (hR2 : R (m + 1) 0 = x ∧ R (m + 1) 1 = 0) :
    uncost D (upd ord x z) n + pcost D R (m + 2) < uncost D ord n + pcost D Q (m + 1) := by
  have h1 := uncost_upd (D := D) hz h0 n
  rw [if_pos hx] at h1
  simp only [pcost]
  rw [pcost_congr m hR, hR1.1, hR1.2, hR2.1, hR2.2]
  omega
theorem edge_cost {n : Nat} {D : Nat → List Nat} {ord : Nat → Nat} {m : Nat} {Q R : Nat → Nat → Nat} (hk : Q m 1 < (D (Q m 0)).length)
    (hR : ∀ i, i < m → R i 0 = Q i 0 ∧ R i 1 = Q i 1) (hR1 : R m 0 = Q m 0 ∧ R m 1 = Q m 1 + 1) :
    uncost D ord n + pcost D R (m + 1) < uncost D ord n + pcost D Q (m + 1) := by
  simp only [pcost]
  rw [pcost_congr m hR, hR1.1, hR1.2]
  omega
theorem pop_cost {n : Nat} {D : Nat → List Nat} {ord : Nat → Nat} {m : Nat} {Q : Nat → Nat → Nat} : uncost D ord n + pcost D Q m < uncost D ord n + pcost D Q (m + 1) := by
  simp only [pcost]
  omega
end Go.Proofs.Qxb6616383a.Plain
