/-
  The groups of an answer: what a caller reads of it; each name once (plain).
-/
import Derived.Test.Qxb6616383aReady
import Derived.Test.Qxb6616383aSort
import Derived.Test.Qxb6616383aOrder
namespace Go.Proofs.Qxb6616383a
open Go.RowKit
open Plain
set_option maxRecDepth 100000 in
set_option maxHeartbeats 400000 in
theorem find_row (w : World) (g n c : Nat) (f : Nat → ByteArray) (s : ByteArray) (hn : n ≤ 1000000) (hf : ∀ i, i < n → w.cell? ⟨g, i, none⟩ = some (.string (f i))) (hr : Rises n f) :
    Calls Try.prog 9 #[.slice (some ⟨g, 0, none⟩) n c, .string s] w fun e w' => w' = w ∧ ((∃ i, i < n ∧ f i = s ∧ e = .returned (.int .i64 (i : Nat))) ∨ ((∀ i, i < n → f i ≠ s) ∧ e = .returned (.int .i64 (-1)))) := by
  have hc : Hid (∀ i, i < n → w.cell? ⟨g, i, none⟩ = some (.string (f i))) := hf
  clear hf
  have hr : Hid (Rises n f) := hr
  go_enter Try.func9, Try.ntmps9
  go_wp2
  go_loop [5, 6, 7] (fun lo hi _ => ∃ a b : Nat, a ≤ b ∧ b ≤ n ∧ lo = .int .i64 a ∧ hi = .int .i64 b ∧ Hid (∀ i, i < a → ltS (f i) s = true) ∧ Hid (∀ i, b ≤ i → i < n → ltS (f i) s = false)) (fun lo hi _ => (intOf hi).toNat - (intOf lo).toNat)
  case atStart => exact ⟨0, n, by omega, by omega, rfl, rfl, fun i h => by omega, fun i h h' => by omega⟩
  case round =>
    obtain ⟨a, b, hab, hbn, rfl, rfl, h1, h2⟩ := hrel
    by_cases hlt : a < b
    · have cm := hc.out (a + (b - a) / 2) (by omega)
      cases hl : ltS (f (a + (b - a) / 2)) s with
      | true =>
        have hl' : Op.bytesLess (f (a + (b - a) / 2)).toList s.toList = true := hl
        have HL : Hid (ltS (f (a + (b - a) / 2)) s = true) := hl
        clear hl
        go_wp2
        go_round
        case rel => 
          refine ⟨a + (b - a) / 2 + 1, b, by omega, by omega, by go_num, rfl, fun i hi => ?_, h2⟩
          rcases Nat.lt_or_ge i (a + (b - a) / 2) with h | h
          · exact ltS_trans (hr.out i _ h (by omega)) HL.out
          · have : i = a + (b - a) / 2 := by omega
            rw [this]; exact HL.out
        case measure => simp [intOf]; omega
      | false =>
        have hl' : Op.bytesLess (f (a + (b - a) / 2)).toList s.toList = false := hl
        have HL : Hid (ltS (f (a + (b - a) / 2)) s = false) := hl
        clear hl
        go_wp2
        go_round
        case rel => 
          refine ⟨a, a + (b - a) / 2, by omega, by omega, by go_num, by go_num, h1, fun i hi hin => ?_⟩
          rcases Nat.lt_or_ge (a + (b - a) / 2) i with h | h
          · exact leS_trans HL.out (leS_of_lt (hr.out _ i h (by omega)))
          · have : i = a + (b - a) / 2 := by omega
            rw [this]; exact HL.out
        case measure => simp [intOf]; omega
    · obtain rfl : a = b := by omega
      by_cases han : a < n
      · have cm := hc.out a han
        by_cases e : f a = s
        · have e' : ((f a).toList == s.toList) = true := by rw [e]; simp
          have E : Hid (f a = s) := e
          clear e
          go_wp2
          go_ret
          exact ⟨rfl, Or.inl ⟨a, han, E.out, rfl⟩⟩
        · have e' : ((f a).toList == s.toList) = false := by rw [beq_eq_false_iff_ne]; exact fun h => e (toList_inj h)
          have E : Hid (f a ≠ s) := e
          clear e
          go_wp2
          go_ret
          refine ⟨rfl, Or.inr ⟨fun i hi he => ?_, rfl⟩⟩
          rcases Nat.lt_trichotomy i a with h | h | h
          · have := h1.out i h; rw [he, ltS_irrefl] at this; cases this
          · subst h; exact E.out he
          · have h3 := hr.out a i h hi
            rw [he] at h3
            have := h2.out a (Nat.le_refl a) han
            rw [this] at h3; cases h3
      · go_wp2
        go_ret
        refine ⟨rfl, Or.inr ⟨fun i hi he => ?_, rfl⟩⟩
        have := h1.out i (by omega); rw [he, ltS_irrefl] at this; cases this


namespace Plain
theorem getD_mem {l : List Nat} {j : Nat} (h : j < l.length) : l.getD j 0 ∈ l := by
  rw [List.getD_eq_getElem?_getD, List.getElem?_eq_getElem h, Option.getD_some]; exact List.getElem_mem h
theorem run_len {E : Nat → List Nat} {grp : Nat → Nat} {keep : Nat → Bool} {G : Nat} : ∀ f wt rd, (run E grp keep G f wt rd).length ≤ f := by
  intro f
  induction f with
  | zero => intro wt rd; simp [run]
  | succ f ih =>
    intro wt rd
    simp only [run]
    split
    · simp
    · simp only [List.length_cons]
      exact Nat.succ_le_succ (ih _ _)
/-- ln groups M 0, M 1, .. of names below n: none empty, each rising, no name twice. -/
structure Parts (n ln : Nat) (M : Nat → List Nat) : Prop where
  some_ : ∀ i, i < ln → M i ≠ []
  lt : ∀ i, i < ln → ∀ x, x ∈ M i → x < n
  up : ∀ i, i < ln → (M i).Pairwise (· < ·)
  apart : ∀ i j, i < ln → j < ln → ∀ x, x ∈ M i → x ∈ M j → i = j
theorem Parts.of {n G : Nat} {D : Nat → List Nat} {grp : Nat → Nat} {keep : Nat → Bool} (hg : Gr n D grp G) (hD : ∀ v x, x ∈ D v → x < n) : Parts n (order D grp keep n G).length (fun i => memb grp n ((order D grp keep n G).getD i 0)) := by
  have hn := order_nodup (keep := keep) hg hD
  refine ⟨fun i hi => ?_, fun i hi x hx => (mem_memb.1 hx).1, fun i hi => sel_rising _ _, fun i j hi hj x h1 h2 => ?_⟩
  · obtain ⟨u, h1, h2, _⟩ := hg.onto _ (hn.2 _ (getD_mem hi))
    intro h
    have : u ∈ memb grp n ((order D grp keep n G).getD i 0) := mem_memb.2 ⟨h1, h2⟩
    rw [h] at this
    cases this
  · have e : (order D grp keep n G).getD i 0 = (order D grp keep n G).getD j 0 := (mem_memb.1 h1).2.symm.trans (mem_memb.1 h2).2
    rw [List.getD_eq_getElem?_getD, List.getD_eq_getElem?_getD, List.getElem?_eq_getElem hi, List.getElem?_eq_getElem hj] at e
    simp only [Option.getD_some] at e
    have hp := List.pairwise_iff_getElem.1 hn.1
    rcases Nat.lt_trichotomy i j with h | h | h
    · exact absurd e (hp i j hi hj h)
    · exact h
    · exact absurd e.symm (hp j i hj hi h)
theorem Parts.all {n G : Nat} {D : Nat → List Nat} {grp : Nat → Nat} {keep : Nat → Bool} (hg : Gr n D grp G) (hD : ∀ v x, x ∈ D v → x < n) (hk : ∀ v, v < n → keep v = true) (x : Nat) (hx : x < n) : ∃ i, i < (order D grp keep n G).length ∧ x ∈ memb grp n ((order D grp keep n G).getD i 0) := by
  have := order_all hg hD hk _ (hg.lt x hx)
  obtain ⟨i, hi, e⟩ := List.mem_iff_getElem.1 this
  refine ⟨i, hi, mem_memb.2 ⟨hx, ?_⟩⟩
  rw [List.getD_eq_getElem?_getD, List.getElem?_eq_getElem hi, Option.getD_some, e]
theorem order_len {n G : Nat} {D : Nat → List Nat} {grp : Nat → Nat} {keep : Nat → Bool} (hg : Gr n D grp G) : (order D grp keep n G).length ≤ n := by
  exact Nat.le_trans (run_len _ _ _) hg.le
theorem memb_atmost (grp : Nat → Nat) (n g : Nat) : (memb grp n g).length ≤ n := by
  unfold memb sel
  refine Nat.le_trans (List.length_filter_le _ _) ?_
  simp
def b2n (s : Nat → Bool) : Nat → Nat := fun x => if s x then 1 else 0
/-- Seen are the names of the groups before i and the first j of group i; c of them. -/
def Cov (n : Nat) (M : Nat → List Nat) (i j : Nat) (s : Nat → Bool) (c : Nat) : Prop :=
  (∀ x, x < n → (s x = true ↔ (∃ i', i' < i ∧ x ∈ M i') ∨ x ∈ (M i).take j)) ∧ c + unv (b2n s) n = n
theorem Cov.zero (n : Nat) (M : Nat → List Nat) : Cov n M 0 0 (fun _ => false) 0 := by
  refine ⟨fun x hx => by simp, ?_⟩
  have : b2n (fun _ => false) = fun _ => 0 := by funext x; simp [b2n]
  rw [this, unv_zero]; omega
theorem Cov.le {n : Nat} {M : Nat → List Nat} {i j : Nat} {s : Nat → Bool} {c : Nat} (h : Cov n M i j s c) : c ≤ n := by
  have := h.2; omega
theorem Cov.step {n ln : Nat} {M : Nat → List Nat} (hp : Parts n ln M) {i j : Nat} {s : Nat → Bool} {c : Nat} (h : Cov n M i j s c) (hi : i < ln) (hj : j < (M i).length) :
    (M i).getD j 0 < n ∧ s ((M i).getD j 0) = false ∧ Cov n M i (j + 1) (upd s ((M i).getD j 0) true) (c + 1) := by
  have hx : (M i).getD j 0 = (M i)[j] := by rw [List.getD_eq_getElem?_getD, List.getElem?_eq_getElem hj, Option.getD_some]
  rw [hx]
  have hm : (M i)[j] ∈ M i := List.getElem_mem hj
  have hl := hp.lt i hi _ hm
  have hs : s (M i)[j] = false := by
    rcases hq : s (M i)[j] with _ | _
    · rfl
    · rcases (h.1 _ hl).1 hq with ⟨i', h1, h2⟩ | h1
      · have := hp.apart i' i (by omega) hi _ h2 hm; omega
      · obtain ⟨k, hk, e⟩ := List.mem_iff_getElem.1 h1
        rw [List.length_take] at hk
        rw [List.getElem_take] at e
        have h3 := List.pairwise_iff_getElem.1 (hp.up i hi) k j (by omega) hj (by omega)
        omega
  refine ⟨hl, hs, fun x hx => ?_, ?_⟩
  · simp only [upd]
    have ht : x ∈ (M i).take (j + 1) ↔ x ∈ (M i).take j ∨ x = (M i)[j] := by
      rw [← List.take_append_getElem hj]
      simp only [List.mem_append, List.mem_singleton]
    rw [ht]
    by_cases e : x = (M i)[j]
    · rw [if_pos e]; simp [e]
    · rw [if_neg e, h.1 x hx]; simp [e]
  · have e : b2n (upd s (M i)[j] true) = upd (b2n s) (M i)[j] 1 := by
      funext x
      by_cases e : x = (M i)[j]
      · simp [b2n, upd, e]
      · simp [b2n, upd, e]
    have h2 := unv_upd (ord := b2n s) (x := (M i)[j]) (z := 1) (by omega) (by simp [b2n, hs]) n
    rw [if_pos hl] at h2
    rw [e]
    have := h.2
    omega
theorem Cov.next {n : Nat} {M : Nat → List Nat} {i : Nat} {s : Nat → Bool} {c : Nat} (h : Cov n M i (M i).length s c) : Cov n M (i + 1) 0 s c := by
  refine ⟨fun x hx => (h.1 x hx).trans ?_, h.2⟩
  rw [List.take_length, List.take_zero]
  constructor
  · rintro (⟨i', h1, h2⟩ | h1)
    · exact Or.inl ⟨i', by omega, h2⟩
    · exact Or.inl ⟨i, by omega, h1⟩
  · rintro (⟨i', h1, h2⟩ | h1)
    · by_cases e : i' = i
      · subst e; exact Or.inr h2
      · exact Or.inl ⟨i', by omega, h2⟩
    · cases h1
theorem unv_all {o : Nat → Nat} : ∀ n, (∀ x, x < n → o x ≠ 0) → unv o n = 0 := by
  intro n
  induction n with
  | zero => intro _; rfl
  | succ n ih =>
    intro h
    simp only [unv]
    rw [ih (fun x hx => h x (by omega)), if_neg (h n (by omega))]
theorem Cov.all {n ln : Nat} {M : Nat → List Nat} {s : Nat → Bool} {c : Nat} (h : Cov n M ln 0 s c) (ha : ∀ x, x < n → ∃ i, i < ln ∧ x ∈ M i) : c = n := by
  have h2 := h.2
  rw [unv_all n (fun x hx => by
    have := (h.1 x hx).2 (Or.inl (ha x hx))
    simp [b2n, this])] at h2
  omega
end Plain
/-- What a caller reads of an answer: ln groups, group i of the names M i. -/
def Gv (w : World) (ao : Option Addr) (ln : Nat) (M : Nat → List Nat) (f : Nat → ByteArray) (B : Nat) : Prop :=
  ∃ gb : Nat → Nat, ∀ i, i < ln → ∃ g, ao = some ⟨g, 0, none⟩ ∧ B ≤ g ∧ B ≤ gb i ∧ w.cell? ⟨g, i, none⟩ = some (.slice (some ⟨gb i, 0, none⟩) (M i).length (M i).length) ∧ ∀ j, j < (M i).length → w.cell? ⟨gb i, j, none⟩ = some (.string (f ((M i).getD j 0)))
theorem Out.view {w : World} {B : Nat} {v : Value} {N f : Nat → ByteArray} {mb : Nat → List Nat} {L : List Nat} {X : Option Nat} (h : Out w B v N mb L X) (hf : ∀ i, i < L.length → ∀ x, x ∈ mb (L.getD i 0) → N x = f x) : ∃ ao c, v = .slice ao L.length c ∧ Gv w ao L.length (fun i => mb (L.getD i 0)) f B := by
  obtain ⟨val, gb, h1, _, h3⟩ := h
  have key : ∀ i, i < L.length → ∀ j, j < (mb (L.getD i 0)).length → w.cell? ⟨gb i, j, none⟩ = some (.string (f ((mb (L.getD i 0)).getD j 0))) := fun i hi j hj => by
    rw [(h3 i hi).2.2.2.2.cell hj]
    simp only [sv]
    rw [hf i hi _ (getD_mem hj)]
  rcases h1.cases with ⟨e, h0⟩ | ⟨g, c, e, hB, hr⟩
  · exact ⟨none, 0, by rw [e, h0], gb, fun i hi => by omega⟩
  · refine ⟨some ⟨g, 0, none⟩, c, e, gb, fun i hi => ⟨g, rfl, hB, (h3 i hi).1, ?_, key i hi⟩⟩
    rw [hr.cell hi, (h3 i hi).2.2.2.1]
theorem Only.cell_ {S : Nat → Prop} {w w' : World} (ho : Only S w w') {b o : Nat} {v : Value} (h : w.cell? ⟨b, o, none⟩ = some v) (hb : ¬ S b) : w'.cell? ⟨b, o, none⟩ = some v := by
  rw [← h]
  simp only [World.cell?]
  rw [ho.block b (World.block_lt_of_cell? w _ h) hb]
theorem Gv.only {S : Nat → Prop} {w w' : World} {ao : Option Addr} {ln : Nat} {M : Nat → List Nat} {f : Nat → ByteArray} {B : Nat} (h : Gv w ao ln M f B) (ho : Only S w w') (hS : ∀ k, k < w.heap.size → ¬ S k) : Gv w' ao ln M f B := by
  obtain ⟨gb, h⟩ := h
  refine ⟨gb, fun i hi => ?_⟩
  obtain ⟨g, e, h1, h2, h3, h4⟩ := h i hi
  exact ⟨g, e, h1, h2, ho.cell_ h3 (hS _ (World.block_lt_of_cell? w _ h3)), fun j hj => ho.cell_ (h4 j hj) (hS _ (World.block_lt_of_cell? w _ (h4 j hj)))⟩
end Go.Proofs.Qxb6616383a
