/-
  The memory of the order's walk: the counts and the queue of the ready groups.
-/
import Derived.Test.Qxb6616383aTables
import Derived.Test.Qxb6616383aOrder
import Derived.Test.Qxb6616383aQueue
namespace Go.Proofs.Qxb6616383a
open Go.RowKit
open Plain
/-- The counts in block W, the queue behind R; lo a bound of how far a count has fallen. -/
structure QAt (w : World) (W R G : Nat) (v : Value) (k : Nat) (q : Nat → Nat) (s : (Nat → Int) × (Nat → Nat)) (dn : Nat → Nat) (lo : Nat) : Prop where
  hW : Arr w W 3 G (iv s.1)
  hH : HeapAt w R v k q
  hp : HP k q 0
  inj : Inj k q
  mem : ∀ x, In k q x ↔ s.2 x ≠ 0
  cnt : k + unv s.2 G = G
  ki : KI G s.1 s.2 dn
  low : ∀ g, -(lo : Int) ≤ s.1 g
  up : ∀ g, s.1 g ≤ 10000000000
  wr : W < R
section
variable {w : World} {W R G : Nat} {v : Value} {k : Nat} {q : Nat → Nat} {s : (Nat → Int) × (Nat → Nat)} {dn : Nat → Nat} {lo : Nat}
theorem QAt.only (h : QAt w W R G v k q s dn lo) {w' : World} {S : Nat → Prop} (ho : Only S w w') (h1 : ¬ S W) (h2 : ¬ S R) (h3 : ∀ b, v.ownBlock = some b → ¬ S b) : QAt w' W R G v k q s dn lo :=
  ⟨h.hW.only ho h1, ⟨h.hH.box.only ho h2, h.hH.own.only ho h3⟩, h.hp, h.inj, h.mem, h.cnt, h.ki, h.low, h.up, h.wr⟩
theorem QAt.apart (h : QAt w W R G v k q s dn lo) : ∀ b, v.ownBlock = some b → R < b ∧ b < w.heap.size := fun b hb => by have := h.hH.own.lt b hb; omega
theorem QAt.weaker (h : QAt w W R G v k q s dn lo) {lo' : Nat} (hl : lo ≤ lo') : QAt w W R G v k q s dn lo' :=
  ⟨h.hW, h.hH, h.hp, h.inj, h.mem, h.cnt, h.ki, fun g => by have := h.low g; omega, h.up, h.wr⟩
theorem HeapAt.other {w : World} {R n : Nat} {v : Value} {q : Nat → Nat} (h : HeapAt w R v n q) {a : Addr} (ha : a.block ≠ R) (hb : v.ownBlock ≠ some a.block) (u : Value) : HeapAt (w.setCell a u) R v n q := ⟨h.box.other ha.symm u, h.own.setCell hb u⟩
theorem est_low {grp : Nat → Nat} {keep : Nat → Bool} {c x : Nat} {s : (Nat → Int) × (Nat → Nat)} {lo : Nat} (h : ∀ g, -(lo : Int) ≤ s.1 g) : ∀ g, -((lo + 1 : Nat) : Int) ≤ (est grp keep c s x).1 g := by
  intro g
  unfold est
  by_cases hc : grp x = c
  · rw [if_pos hc]; have := h g; omega
  · rw [if_neg hc]
    simp only [upd]
    have := h g
    have := h (grp x)
    split <;> omega
theorem est_up {grp : Nat → Nat} {keep : Nat → Bool} {c x : Nat} {s : (Nat → Int) × (Nat → Nat)} {B : Int} (h : ∀ g, s.1 g ≤ B) : ∀ g, (est grp keep c s x).1 g ≤ B := by
  intro g
  unfold est
  by_cases hc : grp x = c
  · rw [if_pos hc]; exact h g
  · rw [if_neg hc]
    simp only [upd]
    have := h g
    have := h (grp x)
    split <;> omega
/-- An edge inside the group: nothing. -/
theorem QAt.same (h : QAt w W R G v k q s dn lo) {grp : Nat → Nat} {keep : Nat → Bool} {c x : Nat} (hc : grp x = c) : QAt w W R G v k q (est grp keep c s x) dn (lo + 1) := by
  have e : est grp keep c s x = s := by unfold est; rw [if_pos hc]
  rw [e]; exact h.weaker (by omega)
/-- A count falls; nothing becomes ready. -/
theorem QAt.dec (h : QAt w W R G v k q s dn lo) {grp : Nat → Nat} {keep : Nat → Bool} {c x : Nat} (hc : grp x ≠ c) (hx : grp x < G) (hn : ¬ (s.1 (grp x) - 1 = 0 ∧ keep x = true)) : QAt (w.setCell ⟨W, grp x, none⟩ (.int .i64 (s.1 (grp x) - 1))) W R G v k q (est grp keep c s x) dn (lo + 1) := by
  have hap := h.apart
  have hwr := h.wr
  have hki := h.ki.est (keep := keep) (c := c) hx
  have hl := est_low (grp := grp) (keep := keep) (c := c) (x := x) h.low
  have hu := est_up (grp := grp) (keep := keep) (c := c) (x := x) h.up
  have e : est grp keep c s x = (upd s.1 (grp x) (s.1 (grp x) - 1), s.2) := by unfold est; rw [if_neg hc, if_neg hn]
  rw [e] at hki hl hu ⊢
  refine ⟨?_, h.hH.other (by simp only; omega) (fun e => by have := (hap _ e).1; simp only at this; omega) _, h.hp, h.inj, h.mem, h.cnt, hki, hl, hu, h.wr⟩
  have := h.hW.set (grp x) (.int .i64 (s.1 (grp x) - 1))
  rw [upd_iv] at this
  exact this
/-- A count falls to nothing, and its group is pushed. -/
theorem QAt.push (h : QAt w W R G v k q s dn lo) {grp : Nat → Nat} {keep : Nat → Bool} {c x : Nat} (hc : grp x ≠ c) (hx : grp x < G) (hn : s.1 (grp x) - 1 = 0 ∧ keep x = true) {w3 : World} {v' : Value} {q' : Nat → Nat} (hH : HeapAt w3 R v' (k + 1) q') (hM : Mix (k + 1) (upd q k (grp x)) q') (hP : HP (k + 1) q' 0) (ho : Only (fun kk => kk = R ∨ v.ownBlock = some kk) (w.setCell ⟨W, grp x, none⟩ (.int .i64 (s.1 (grp x) - 1))) w3) :
    QAt w3 W R G v' (k + 1) q' (est grp keep c s x) dn (lo + 1) := by
  have hap := h.apart
  have hwr := h.wr
  have hki := h.ki.est (keep := keep) (c := c) hx
  have hl := est_low (grp := grp) (keep := keep) (c := c) (x := x) h.low
  have hu := est_up (grp := grp) (keep := keep) (c := c) (x := x) h.up
  have h0 := h.ki.fresh hn.1
  have e : est grp keep c s x = (upd s.1 (grp x) (s.1 (grp x) - 1), upd s.2 (grp x) 1) := by unfold est; rw [if_neg hc, if_pos hn]
  rw [e] at hki hl hu ⊢
  have hnot : ¬ In k q (grp x) := fun hi => (h.mem (grp x)).1 hi h0
  refine ⟨?_, hH, hP, hM.inj (push_inj h.inj hnot), fun y => ?_, ?_, hki, hl, hu, h.wr⟩
  · have := h.hW.set (grp x) (.int .i64 (s.1 (grp x) - 1))
    rw [upd_iv] at this
    refine this.only ho ?_
    rintro (h1 | h1)
    · omega
    · have := (hap _ h1).1; omega
  · rw [hM.mem y, push_mem, h.mem y]
    simp only [upd]
    by_cases ey : y = grp x
    · simp [ey]
    · simp [ey]
  · have := unv_upd (ord := s.2) (x := grp x) (z := 1) (by omega) h0 G
    rw [if_pos hx] at this
    have := h.cnt
    show k + 1 + unv (upd s.2 (grp x) 1) G = G
    omega
/-- The room for a push. -/
theorem QAt.room (h : QAt w W R G v k q s dn lo) {g : Nat} (hg : g < G) (h0 : s.2 g = 0) : k < G := by
  have := unv_upd (ord := s.2) (x := g) (z := 1) (by omega) h0 G
  rw [if_pos hg] at this
  have := h.cnt
  omega
/-- The least ready group is taken. -/
theorem QAt.pop (h : QAt w W R G v (k + 1) q s dn lo) {w3 : World} {v' : Value} {q' : Nat → Nat} (hH : HeapAt w3 R v' k q') (hM : Mix k (swp q 0 k) q') (hP : HP k q' 0) (ho : Only (fun kk => kk = R ∨ v.ownBlock = some kk) w w3) :
    QAt w3 W R G v' k q' (s.1, upd s.2 (q 0) 0) (upd dn (q 0) 1) lo ∧ s.2 (q 0) ≠ 0 ∧ q 0 < G ∧ ∀ g, g < G → s.2 g ≠ 0 → q 0 ≤ g := by
  have hap := h.apart
  have hwr := h.wr
  have h0 : s.2 (q 0) ≠ 0 := (h.mem (q 0)).1 ⟨0, by omega, rfl⟩
  have hG : q 0 < G := (h.ki.r1 _ h0).2.2
  refine ⟨⟨h.hW.only ho ?_, hH, hP, hM.inj ?_, fun y => ?_, ?_, h.ki.pop h0, h.low, h.up, h.wr⟩, h0, hG, fun g hg hr => ?_⟩
  · rintro (h1 | h1)
    · omega
    · have := (hap _ h1).1; omega
  · intro a b ha hb e
    rw [swp_at, swp_at, if_neg (show a ≠ k by omega), if_neg (show b ≠ k by omega)] at e
    by_cases a0 : a = 0 <;> by_cases b0 : b = 0
    · omega
    · rw [if_pos a0, if_neg b0] at e; have := h.inj k b (by omega) (by omega) e; omega
    · rw [if_neg a0, if_pos b0] at e; have := h.inj a k (by omega) (by omega) e; omega
    · rw [if_neg a0, if_neg b0] at e; exact h.inj a b (by omega) (by omega) e
  · rw [hM.mem y, pop_mem h.inj, h.mem y]
    simp only [upd]
    by_cases ey : y = q 0
    · simp [ey]
    · simp [ey]
  · have := unv_off h0 hG
    have := h.cnt
    show k + unv (upd s.2 (q 0) 0) G = G
    omega
  · obtain ⟨i, hi, e⟩ := (h.mem g).2 hr
    rw [← e]; exact h.hp.least i hi
theorem QAt.none_ready (h : QAt w W R G v 0 q s dn lo) : ∀ g, g < G → s.2 g = 0 := fun g _ => by
  apply Classical.byContradiction
  intro hr
  obtain ⟨i, hi, _⟩ := (h.mem g).2 hr
  omega
end
theorem foldl_take_succ {α : Type} {f : α → Nat → α} {s : α} {l : List Nat} {j : Nat} (hj : j < l.length) : (l.take (j + 1)).foldl f s = f ((l.take j).foldl f s) (l.getD j 0) := by
  rw [List.take_succ_eq_append_getElem hj, List.foldl_append, List.getD_eq_getElem?_getD, List.getElem?_eq_getElem hj]
  rfl
theorem foldl_flat_succ {α : Type} {f : α → Nat → α} {s : α} {l : List Nat} {D : Nat → List Nat} {j : Nat} (hj : j < l.length) : ((l.take (j + 1)).flatMap D).foldl f s = (D (l.getD j 0)).foldl f (((l.take j).flatMap D).foldl f s) := by
  rw [List.take_succ_eq_append_getElem hj, List.flatMap_append, List.foldl_append, List.getD_eq_getElem?_getD, List.getElem?_eq_getElem hj]
  simp
theorem wstep_bound {grp : Nat → Nat} {v x : Nat} {wt : Nat → Int} {B : Int} (h : ∀ g, 0 ≤ wt g ∧ wt g ≤ B) : ∀ g, 0 ≤ wstep grp v wt x g ∧ wstep grp v wt x g ≤ B + 1 := by
  intro g
  unfold wstep
  have h1 := h g
  have h2 := h (grp x)
  by_cases hc : grp x = grp v
  · rw [if_pos hc]; omega
  · rw [if_neg hc]
    simp only [upd]
    split <;> omega
/-- The ready groups among the first c. -/
theorem rd0_succ (D : Nat → List Nat) (grp : Nat → Nat) (keep : Nat → Bool) (n c : Nat) : rd0 D grp keep n (c + 1) = if rdy0 D grp keep n c = true then upd (rd0 D grp keep n c) c 1 else rd0 D grp keep n c := by
  funext g
  unfold rd0
  by_cases h : rdy0 D grp keep n c = true
  · rw [if_pos h]
    simp only [upd]
    by_cases e : g = c
    · rw [if_pos e, e, if_pos ⟨by omega, h⟩]
    · rw [if_neg e]
      by_cases h2 : g < c ∧ rdy0 D grp keep n g = true
      · rw [if_pos h2, if_pos ⟨by omega, h2.2⟩]
      · rw [if_neg h2, if_neg (fun h3 => h2 ⟨by omega, h3.2⟩)]
  · rw [if_neg h]
    by_cases h2 : g < c ∧ rdy0 D grp keep n g = true
    · rw [if_pos h2, if_pos ⟨by omega, h2.2⟩]
    · rw [if_neg h2, if_neg (fun h3 => h2 ⟨by
        have := h3.1
        by_cases e : g = c
        · rw [e] at h3; exact absurd h3.2 h
        · omega, h3.2⟩)]
/-- The answer: the groups L, each by its names; none of it lies in the block X. -/
def Out (w : World) (B : Nat) (v : Value) (N : Nat → ByteArray) (mb : Nat → List Nat) (L : List Nat) (X : Option Nat) : Prop :=
  ∃ (val : Nat → Value) (gb : Nat → Nat), Own w B 22 v L.length val ∧ (∀ kk, v.ownBlock = some kk → X ≠ some kk) ∧ ∀ i, i < L.length → B ≤ gb i ∧ v.ownBlock ≠ some (gb i) ∧ X ≠ some (gb i) ∧ val i = .slice (some ⟨gb i, 0, none⟩) (mb (L.getD i 0)).length (mb (L.getD i 0)).length ∧ Arr w (gb i) 9 (mb (L.getD i 0)).length (sv (fun j => N ((mb (L.getD i 0)).getD j 0)))
theorem Out.only {w w' : World} {B : Nat} {v : Value} {N : Nat → ByteArray} {mb : Nat → List Nat} {L : List Nat} {X : Option Nat} (h : Out w B v N mb L X) {S : Nat → Prop} (ho : Only S w w') (hS : ∀ kk, S kk → kk < B ∨ X = some kk) : Out w' B v N mb L X := by
  obtain ⟨val, gb, h1, h2, h3⟩ := h
  refine ⟨val, gb, h1.only ho (fun kk hk hs => ?_), h2, fun i hi => ?_⟩
  · rcases hS kk hs with h | h
    · have := (h1.lt kk hk).1; omega
    · exact h2 kk hk h
  · obtain ⟨a, b, c, d, e⟩ := h3 i hi
    refine ⟨a, b, c, d, e.only ho (fun hs => ?_)⟩
    rcases hS _ hs with h | h
    · omega
    · exact c h
theorem Out.moved {w : World} {B : Nat} {v : Value} {N : Nat → ByteArray} {mb : Nat → List Nat} {L : List Nat} {X X' : Option Nat} (h : Out w B v N mb L X) (hX : X' = X ∨ ∀ k, X' = some k → w.heap.size ≤ k) : Out w B v N mb L X' := by
  obtain ⟨val, gb, h1, h2, h3⟩ := h
  refine ⟨val, gb, h1, fun kk hk => ?_, fun i hi => ?_⟩
  · rcases hX with rfl | hX
    · exact h2 kk hk
    · intro e; have := hX kk e; have := (h1.lt kk hk).2; omega
  · obtain ⟨a, b, c, d, e⟩ := h3 i hi
    refine ⟨a, b, ?_, d, e⟩
    rcases hX with rfl | hX
    · exact c
    · intro e'; have := hX _ e'; have := e.lt; omega
theorem Out.step {w w' : World} {B : Nat} {v : Value} {N : Nat → ByteArray} {mb : Nat → List Nat} {L : List Nat} {X X' : Option Nat} (h : Out w B v N mb L X) {S : Nat → Prop} (ho : Only S w w') (hS : ∀ kk, S kk → kk < B ∨ X = some kk) (hX : X' = X ∨ ∀ k, X' = some k → w.heap.size ≤ k) : Out w' B v N mb L X' := by
  obtain ⟨val, gb, h1, h2, h3⟩ := h
  refine ⟨val, gb, h1.only ho (fun kk hk hs => ?_), fun kk hk => ?_, fun i hi => ?_⟩
  · rcases hS kk hs with h | h
    · have := (h1.lt kk hk).1; omega
    · exact h2 kk hk h
  · rcases hX with rfl | hX
    · exact h2 kk hk
    · intro e; have := hX kk e; have := (h1.lt kk hk).2; omega
  · obtain ⟨a, b, c, d, e⟩ := h3 i hi
    refine ⟨a, b, ?_, d, e.only ho (fun hs => ?_)⟩
    · rcases hX with rfl | hX
      · exact c
      · intro e'; have := hX _ e'; have := e.lt; omega
    · rcases hS _ hs with h | h
      · omega
      · exact c h
theorem Out.mono {w : World} {B B' : Nat} {v : Value} {N : Nat → ByteArray} {mb : Nat → List Nat} {L : List Nat} {X : Option Nat} (h : Out w B v N mb L X) (hB : B' ≤ B) : Out w B' v N mb L X := by
  obtain ⟨val, gb, h1, h2, h3⟩ := h
  exact ⟨val, gb, h1.mono hB, h2, fun i hi => by obtain ⟨a, r⟩ := h3 i hi; exact ⟨by omega, r⟩⟩
theorem getD_snoc (L : List Nat) (c i : Nat) (hi : i < L.length) : (L ++ [c]).getD i 0 = L.getD i 0 := by
  rw [List.getD_eq_getElem?_getD, List.getD_eq_getElem?_getD, List.getElem?_append_left hi]
theorem getD_last (L : List Nat) (c : Nat) : (L ++ [c]).getD L.length 0 = c := by
  rw [List.getD_eq_getElem?_getD, List.getElem?_append_right (Nat.le_refl _)]
  simp
/-- One more group. -/
theorem Out.push {w w5 w7 : World} {B : Nat} {gv v' : Value} {N : Nat → ByteArray} {mb : Nat → List Nat} {L : List Nat} {X : Option Nat} {val : Nat → Value} {gb : Nat → Nat} {c : Nat} {o : Obj} (h1 : Own w B 22 gv L.length val) (h2 : ∀ kk, gv.ownBlock = some kk → X ≠ some kk)
    (h3 : ∀ i, i < L.length → B ≤ gb i ∧ gv.ownBlock ≠ some (gb i) ∧ X ≠ some (gb i) ∧ val i = .slice (some ⟨gb i, 0, none⟩) (mb (L.getD i 0)).length (mb (L.getD i 0)).length ∧ Arr w (gb i) 9 (mb (L.getD i 0)).length (sv (fun j => N ((mb (L.getD i 0)).getD j 0))))
    (hn : New w w5) (hA : Arr w5 w.heap.size 9 (mb c).length (sv (fun j => N ((mb c).getD j 0)))) (hx : ∀ k, X = some k → k < w.heap.size) (hB : B ≤ w.heap.size)
    (hO : Own w7 B 22 v' (L.length + 1) (upd val L.length (.slice (some ⟨w.heap.size, 0, none⟩) (mb c).length (mb c).length))) (hg : (w5.alloc o).grownBy w7 gv.ownBlock) (hM : Moved (w5.alloc o) gv v') : Out w7 B v' N mb (L ++ [c]) X := by
  have hsz := hn.lt
  have hal : (w5.alloc o).heap.size = w5.heap.size + 1 := by simp
  have hgv : ∀ kk, gv.ownBlock = some kk → kk < w.heap.size := fun kk hk => (h1.lt kk hk).2
  have hv' : ∀ kk, v'.ownBlock = some kk → gv.ownBlock = some kk ∨ w5.heap.size < kk := fun kk hk => by
    rcases hM with h | h
    · exact Or.inl (by rw [← h]; exact hk)
    · have := h kk hk; exact Or.inr (by omega)
  refine ⟨_, upd gb L.length w.heap.size, by rw [List.length_append]; exact hO, fun kk hk e => ?_, fun i hi => ?_⟩
  · rcases hv' kk hk with h | h
    · exact h2 kk h e
    · have := hx kk e; omega
  · rw [List.length_append] at hi
    simp only [List.length_cons, List.length_nil] at hi
    by_cases e : i = L.length
    · subst e
      rw [upd_same, upd_same, getD_last]
      refine ⟨hB, fun h => ?_, fun h => ?_, rfl, (hA.alloc o).grown hg (fun h => ?_)⟩
      · rcases hv' _ h with h | h
        · have := hgv _ h; omega
        · omega
      · have := hx _ h; omega
      · have := hgv _ h.symm; omega
    · rw [upd_other _ _ _ _ e, upd_other _ _ _ _ e, getD_snoc _ _ _ (by omega)]
      obtain ⟨a, b, c', d, f⟩ := h3 i (by omega)
      have hl := f.lt
      refine ⟨a, fun h => ?_, c', d, ((f.new hn).alloc o).grown hg (fun h => b h.symm)⟩
      rcases hv' _ h with h | h
      · exact b h
      · omega
end Go.Proofs.Qxb6616383a
