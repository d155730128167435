/-
  What the groups of the answer are, said by the law's own numbers (plain).
-/
import Derived.Test.Qxb6616383aLeast
import Derived.Test.Qxb6616383aGraphOf
namespace Go.Proofs.Qxb6616383a
open Plain
namespace Plain
theorem Reach.mono {D E : Nat → List Nat} (h : ∀ v z, z ∈ D v → z ∈ E v) {u v : Nat} (hr : Reach D u v) : Reach E u v := by
  obtain ⟨k, hk⟩ := hr
  refine ⟨k, ?_⟩
  revert u
  induction k with
  | zero => intro u hk; exact hk
  | succ k ih =>
    intro u hk
    obtain ⟨x, h1, h2⟩ := hk
    exact ⟨x, h u x h1, ih h2⟩
theorem cnt_iff {a b : Nat → Nat} {c d : Nat} : ∀ n, (∀ k, k < n → (a k = c ↔ b k = d)) → cnt a c n = cnt b d n := by
  intro n
  induction n with
  | zero => intro _; rfl
  | succ n ih =>
    intro h
    simp only [cnt]
    rw [ih (fun k hk => h k (by omega))]
    congr 1
    have := h n (by omega)
    by_cases e : a n = c
    · rw [if_pos e, if_pos (this.1 e)]
    · rw [if_neg e, if_neg (fun e' => e (this.2 e'))]
structure Facts3 (n m ln : Nat) (M : Nat → List Nat) (x y cp : Nat → Nat) (kp : Nat → Bool) : Prop where
  parts : Parts n ln M
  kept : ∀ i, i < ln → ∀ v, v ∈ M i → kp v = true
  same : ∀ i, i < ln → ∀ v, v ∈ M i → ∀ v', v' ∈ M i → cp v = cp v'
  size : ∀ i, i < ln → ∀ v, v ∈ M i → (M i).length = cnt cp (cp v) n
  all : ∀ v, v < n → kp v = true → ∃ i, i < ln ∧ v ∈ M i
  after : ∀ k, k < m → ∀ i j, i < ln → j < ln → x k ∈ M i → y k ∈ M j → cp (x k) ≠ cp (y k) → i < j
  least : ∀ i j, i < j → j < ln → (∀ k, k < m → kp (x k) = true → kp (y k) = true → cp (x k) ≠ cp (y k) → y k ∈ M j → ∃ i', i' < i ∧ x k ∈ M i') → (M i).getD 0 0 ≤ (M j).getD 0 0
  le : ln ≤ n
  len : ∀ i, (M i).length ≤ n
end Plain
theorem facts3 {m n G : Nat} {fa fb f N : Nat → ByteArray} {D O : Nat → List Nat} {grp x y cp : Nat → Nat} {kp : Nat → Bool} (hr : Rises n f) (hE : ∀ k, k < m → x k < n ∧ f (x k) = fa k ∧ y k < n ∧ f (y k) = fb k)
    (a1 : Made m fa fb n N D) (eN : ∀ i, i < n → N i = f i) (a2 : Gr n D grp G) (a3 : ∀ u x, x ∈ D u → x < n) (hO : ∀ v z, z ∈ O v ↔ ∃ k, k < m ∧ x k = v ∧ y k = z) (hcp : ∀ v, v < n → Least1 O v (cp v)) (hu : ∀ v, v < n → kp v = kp (cp v)) :
    Facts3 n m (order D grp kp n G).length (fun i => memb grp n ((order D grp kp n G).getD i 0)) x y cp kp := by
  have hDO : ∀ v z, z ∈ D v ↔ z ∈ O v := fun v z => by
    rw [hO]
    constructor
    · intro h
      obtain ⟨hv, hz⟩ := a1.dom h
      obtain ⟨k, hk, e1, e2⟩ := (a1.edge hv hz).1 h
      obtain ⟨b1, b2, b3, b4⟩ := hE k hk
      exact ⟨k, hk, hr.inj b1 hv (by rw [b2, e1, eN v hv]), hr.inj b3 hz (by rw [b4, e2, eN z hz])⟩
    · rintro ⟨k, hk, rfl, rfl⟩
      obtain ⟨b1, b2, b3, b4⟩ := hE k hk
      exact (a1.edge b1 b3).2 ⟨k, hk, by rw [eN _ b1, b2], by rw [eN _ b3, b4]⟩
  have hR : ∀ u v, Plain.Reach D u v ↔ Plain.Reach O u v := fun u v => ⟨Plain.Reach.mono (fun v z => (hDO v z).1), Plain.Reach.mono (fun v z => (hDO v z).2)⟩
  have hcg : ∀ v v', v < n → v' < n → (cp v = cp v' ↔ grp v = grp v') := fun v v' hv hv' => by
    rw [a2.same v v' hv hv', hR, hR]
    obtain ⟨p1, p2, p3, p4⟩ := hcp v hv
    obtain ⟨q1, q2, q3, q4⟩ := hcp v' hv'
    constructor
    · intro e
      rw [e] at p2 p3
      exact ⟨p3.trans q2, q3.trans p2⟩
    · rintro ⟨h1, h2⟩
      rcases Nat.lt_trichotomy (cp v) (cp v') with h | h | h
      · exact absurd ⟨p2.trans h1, h2.trans p3⟩ (q4 _ h)
      · exact h
      · exact absurd ⟨q2.trans h2, h1.trans q3⟩ (p4 _ h)
  have hcl : ∀ v, v < n → cp v < n := fun v hv => Nat.lt_of_le_of_lt (hcp v hv).1 hv
  have hnd := order_nodup (keep := kp) a2 a3
  have hmem : ∀ i, i < (order D grp kp n G).length → (order D grp kp n G).getD i 0 ∈ order D grp kp n G := fun i hi => getD_mem hi
  have hgetD : ∀ i (hi : i < (order D grp kp n G).length), (order D grp kp n G).getD i 0 = (order D grp kp n G)[i] := fun i hi => by
    rw [List.getD_eq_getElem?_getD, List.getElem?_eq_getElem hi, Option.getD_some]
  -- keep, by groups
  obtain ⟨kg, hkg⟩ : ∃ kg : Nat → Bool, kg = fun g => kp ((memb grp n g).getD 0 0) := ⟨_, rfl⟩
  have hU : ∀ v, v < n → kp v = kg (grp v) := fun v hv => by
    rw [hkg]
    show kp v = kp ((memb grp n (grp v)).getD 0 0)
    have hm : v ∈ memb grp n (grp v) := mem_memb.2 ⟨hv, rfl⟩
    have h1 := mem_memb.1 (getD_mem (List.length_pos_of_mem hm))
    rw [hu v hv, hu _ h1.1, (hcg v _ hv h1.1).2 h1.2.symm]
  obtain ⟨l1, _⟩ := order_least a2 a3 hU
  have hfirst : ∀ g h, g < h → h < G → (memb grp n g).getD 0 0 ≤ (memb grp n h).getD 0 0 := fun g h hgh hh => by
    obtain ⟨u, u1, u2, u3⟩ := a2.onto h hh
    have hmu : u ∈ memb grp n h := mem_memb.2 ⟨u1, u2⟩
    have hf := mem_memb.1 (getD_mem (List.length_pos_of_mem hmu))
    have e : u ≤ (memb grp n h).getD 0 0 := by
      rcases Nat.lt_or_ge ((memb grp n h).getD 0 0) u with hlt | hge
      · have := u3 _ hlt
        rw [hf.2] at this
        omega
      · exact hge
    have hne : ∀ u', u' < u → grp u' ≠ grp u := fun u' hu' e' => by
      have := u3 u' hu'
      rw [e', u2] at this
      omega
    obtain ⟨w, w1, w2⟩ := (a2.first u1 hne g).1 (by rw [u2]; exact hgh)
    have hmw : w ∈ memb grp n g := mem_memb.2 ⟨by omega, w2⟩
    have hlen := List.length_pos_of_mem hmw
    have hle : (memb grp n g).getD 0 0 ≤ w := by
      rw [List.getD_eq_getElem?_getD, List.getElem?_eq_getElem hlen, Option.getD_some]
      obtain ⟨k, hk, ek⟩ := List.mem_iff_getElem.1 hmw
      rcases Nat.eq_zero_or_pos k with hk0 | hk0
      · subst hk0; omega
      · have := List.pairwise_iff_getElem.1 (sel_rising n (fun u => grp u == g)) 0 k hlen hk hk0
        have e2 : (memb grp n g)[0] < (memb grp n g)[k] := this
        omega
    omega
  have hcome : ∀ i g, come (fun _ => 0) (order D grp kp n G) i g ≠ 0 ↔ g ∈ (order D grp kp n G).take i := fun i g => by
    unfold come
    by_cases h : g ∈ (order D grp kp n G).take i
    · simp [h]
    · simp [h]
  have htake : ∀ i g, g ∈ (order D grp kp n G).take i ↔ ∃ i', i' < i ∧ i' < (order D grp kp n G).length ∧ (order D grp kp n G).getD i' 0 = g := fun i g => by
    constructor
    · intro h
      obtain ⟨k, hk, e⟩ := List.mem_iff_getElem.1 h
      rw [List.length_take] at hk
      rw [List.getElem_take] at e
      exact ⟨k, by omega, by omega, by rw [hgetD k (by omega)]; exact e⟩
    · rintro ⟨i', h1, h2, e⟩
      rw [List.mem_iff_getElem]
      refine ⟨i', by rw [List.length_take]; omega, ?_⟩
      rw [List.getElem_take, ← hgetD i' h2]
      exact e
  have hinj : ∀ i j, i < (order D grp kp n G).length → j < (order D grp kp n G).length → (order D grp kp n G).getD i 0 = (order D grp kp n G).getD j 0 → i = j := fun i j hi hj e => by
    rw [hgetD i hi, hgetD j hj] at e
    have hp := List.pairwise_iff_getElem.1 hnd.1
    rcases Nat.lt_trichotomy i j with h | h | h
    · exact absurd e (hp i j hi hj h)
    · exact h
    · exact absurd e.symm (hp j i hj hi h)
  refine ⟨Parts.of a2 a3, fun i hi v hv => ?_, fun i hi v hv v' hv' => ?_, fun i hi v hv => ?_, fun v hv hk => ?_, fun k hk i j hi hj h1 h2 hne => ?_, fun i j hij hj hd => ?_, order_len a2, fun i => memb_atmost _ _ _⟩
  · obtain ⟨v1, v2⟩ := mem_memb.1 hv
    have := (l1 i hi).1.2.2.1
    rw [hU v v1, v2, hgetD i hi]
    exact this
  · obtain ⟨v1, v2⟩ := mem_memb.1 hv
    obtain ⟨u1, u2⟩ := mem_memb.1 hv'
    exact (hcg v v' v1 u1).2 (v2.trans u2.symm)
  · obtain ⟨v1, v2⟩ := mem_memb.1 hv
    rw [memb_len, ← v2]
    exact (cnt_iff n (fun k hk => hcg k v hk v1)).symm
  · have := order_kept a2 a3 hU v hv hk
    obtain ⟨i, hi, e⟩ := List.mem_iff_getElem.1 this
    exact ⟨i, hi, mem_memb.2 ⟨hv, by rw [hgetD i hi, e]⟩⟩
  · obtain ⟨u1, u2⟩ := mem_memb.1 h1
    obtain ⟨v1, v2⟩ := mem_memb.1 h2
    have hx : y k ∈ D (x k) := (hDO _ _).2 ((hO _ _).2 ⟨k, hk, rfl, rfl⟩)
    have hkx : kp (x k) = true := by
      have := (l1 i hi).1.2.2.1
      rw [hU _ u1, u2, hgetD i hi]; exact this
    have := (l1 j hj).1.2.2.2 (x k) (y k) u1 hkx hx (by rw [v2, hgetD j hj]) (by
      rw [← hgetD j hj, ← v2]
      exact fun e => hne ((hcg _ _ u1 v1).2 e))
    rw [hcome, htake] at this
    obtain ⟨i', h3, h4, e⟩ := this
    have : i' = i := hinj i' i h4 hi (by rw [e, u2])
    omega
  · have hi : i < (order D grp kp n G).length := by omega
    have hGj : (order D grp kp n G).getD j 0 < G := hnd.2 _ (hmem j hj)
    have hle := (l1 i hi).2 ((order D grp kp n G).getD j 0) ⟨hGj, ?_, ?_, ?_⟩
    · rw [← hgetD i hi] at hle
      rcases Nat.lt_or_eq_of_le hle with h | h
      · exact hfirst _ _ h hGj
      · rw [h]
        exact Nat.le_refl _
    · apply Classical.byContradiction
      intro h
      rw [← ne_eq, hcome, htake] at h
      obtain ⟨i', h3, h4, e⟩ := h
      have := hinj i' j h4 hj e
      omega
    · have := (l1 j hj).1.2.2.1
      rw [hgetD j hj]; exact this
    · intro v z hv hk hz e hne
      obtain ⟨k, hk', e1, e2⟩ := (hO v z).1 ((hDO v z).1 hz)
      subst e1
      subst e2
      have hz' := (hE k hk').2.2.1
      have hky : kp (y k) = true := by
        have := (l1 j hj).1.2.2.1
        rw [hU _ hz', e, hgetD j hj]; exact this
      obtain ⟨i', h3, h4⟩ := hd k hk' hk hky (fun ec => hne (by rw [(hcg _ _ hv hz').1 ec, e])) (mem_memb.2 ⟨hz', e⟩)
      rw [hcome, htake]
      exact ⟨i', h3, by omega, (mem_memb.1 h4).2.symm⟩
end Go.Proofs.Qxb6616383a
