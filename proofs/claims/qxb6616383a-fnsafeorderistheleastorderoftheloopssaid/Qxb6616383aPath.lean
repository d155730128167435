/-
  The path of the search: a slice of frames, two cells each.
-/
import Derived.Test.Qxb6616383aVisit
namespace Go.Proofs.Qxb6616383a
open Go.RowKit
open Plain

theorem run_appN {P : Program} (w : World) (t ty : TypeId) (B : Nat) (e : TypeId) (z : Value) (size bytes : Nat) (ht : P.underlying t = some (.slice e)) (h2 : (P.info? e).map (fun i => (i.zero, i.size, i.bytes)) = some (some z, size, bytes)) (hz : z.cells.size = size) (hsz : 0 < size)
    (v : Value) (n : Nat) (xs : List Value) (hown : w.ownsRow B e size v n xs) (ad : Addr) (c : Nat) (news : List Value) (hl : news.length = 1 * size) (hy : ∀ j u, news[j]? = some u → w.cell? (ad.add j) = some u) (h1 : ∀ u ∈ news, u.oneCell' = true) (h63 : n + 1 ≤ maxLen) (hbytes : (n + 1) * bytes ≤ 140737488355328) (hbase : B ≤ w.heap.size) :
    ∃ v' w', (Builtin.append_ #[t, t] ty #[v, .slice (some ad) 1 c]).run P w = .ok v' w' ∧ w'.ownsRow B e size v' (n + 1) (xs ++ news) ∧ w.grownBy w' v.ownBlock ∧ Moved w v v' := by
  obtain ⟨i, hi, hz1, hz2, hz3⟩ := info_parts h2
  have weaken : ∀ (w' : World) (v' : Value) (m : Nat) (ys : List Value), w'.ownsRow w.heap.size e size v' m ys → w'.ownsRow B e size v' m ys := by
    intro w' v' m ys h
    refine ⟨h.1, ?_⟩
    rcases h.2 with hn | ⟨g, cap, cur, rfl, hB, rest⟩
    · exact .inl hn
    · exact .inr ⟨g, cap, cur, rfl, by omega, rest⟩
  have hown' := hown
  rcases hown.2 with ⟨rfl, rfl⟩ | ⟨b, cap, cur, rfl, hb, hbb, hnc, hcm, hcs, htake⟩
  · obtain rfl : xs = [] := List.eq_nil_of_length_eq_zero (by simpa using hown.1)
    obtain ⟨v', w', hrun, r1, r2, _⟩ := run_append_own (P := P) w w.heap.size t ty e i z size bytes ht hi hz1 hz2 hz3 hz hsz (.slice none 0 0) 0 [] (World.ownsRow_nil w _ e size) ad 1 c news hl hy h1 h63 hbytes (Nat.le_refl _)
    exact ⟨v', w', hrun, weaken _ _ _ _ r1, r2, Or.inr (fun k hk => (r1.lt k hk).1)⟩
  · by_cases hfit : n + 1 ≤ cap
    · obtain ⟨w', hrun, r1, r2⟩ := run_append_fits (P := P) w B t ty e i size ht hi hz2 b n cap _ hown' ad 1 c news hl hy h1 hfit
      exact ⟨_, w', hrun, r1, r2, Or.inl rfl⟩
    · obtain ⟨v', w', hrun, r1, r2⟩ := run_append_arg_grows (P := P) w t ty e i z size bytes ht hi hz1 hz2 hz3 hz hsz ⟨b, 0, none⟩ n cap xs hown.1 (fun j u hu => by
          have ea : (⟨b, 0, none⟩ : Addr).add j = ⟨b, j, none⟩ := by unfold Addr.add; split <;> simp_all
          rw [ea]
          simp only [World.cell?, hbb]
          rw [← htake, List.getElem?_take] at hu
          split at hu
          · rw [← Array.getElem?_toList]; exact hu
          · cases hu) ad 1 c news hl hy (by omega) h63 hbytes
      exact ⟨v', w', hrun, weaken _ _ _ _ r1, World.grownBy.weak r2 _, Or.inr (fun k hk => (r1.lt k hk).1)⟩
/-- The slice of n frames, each its name and its next. -/
def Own2 (w : World) (B : Nat) (v : Value) (n : Nat) (Q : Nat → Nat → Nat) : Prop := w.ownsRow B 98 2 v n ((List.range (n * 2)).map (pv Q))
def upd2 (Q : Nat → Nat → Nat) (n a b : Nat) : Nat → Nat → Nat := fun i j => if i = n then (if j = 0 then a else b) else Q i j
theorem own2_step (Q : Nat → Nat → Nat) (n a b : Nat) : (List.range (n * 2)).map (pv Q) ++ [.int .i64 (a : Nat), .int .i64 (b : Nat)] = (List.range ((n + 1) * 2)).map (pv (upd2 Q n a b)) := by
  rw [show (n + 1) * 2 = n * 2 + 1 + 1 by omega, List.range_succ, List.range_succ, List.map_append, List.map_append]
  have e1 : (List.range (n * 2)).map (pv Q) = (List.range (n * 2)).map (pv (upd2 Q n a b)) := List.map_congr_left (fun i hi => by
    have hi' : i < n * 2 := by simpa using hi
    simp only [pv, upd2]
    rw [if_neg (by omega)])
  have e2 : pv (upd2 Q n a b) (n * 2) = .int .i64 (a : Nat) := by rw [pv_even]; simp [upd2]
  have e3 : pv (upd2 Q n a b) (n * 2 + 1) = .int .i64 (b : Nat) := by rw [pv_odd]; simp [upd2]
  rw [e1]
  simp [e2, e3]
theorem app_two {P : Program} (w : World) {ops : Array Oper} {rest : List Oper} {o : Oper} {a : Act} {Q' : Exit → Act → World → Prop}
    (hgd : o.guard = none) (s x : Operand) (t : TypeId) (ho : o.op = .call { callee := .builtin .append, args := #[s, x], argTypes := #[t, t] })
    (B : Nat) (ht : P.underlying t = some (.slice 98)) (h2 : (P.info? 98).map (fun i => (i.zero, i.size, i.bytes)) = some (some (.agg #[.int .i64 0, .int .i64 0]), 2, 16))
    (v : Value) (n : Nat) (Q : Nat → Nat → Nat) (hs : a.eval s = v) (hown : Own2 w B v n Q)
    (g c x1 x2 : Nat) (hx : a.eval x = .slice (some ⟨g, 0, none⟩) 1 c) (hy0 : w.cell? ⟨g, 0, none⟩ = some (.int .i64 (x1 : Nat))) (hy1 : w.cell? ⟨g, 1, none⟩ = some (.int .i64 (x2 : Nat))) (h63 : n + 1 ≤ 1000000) (hbase : B ≤ w.heap.size)
    (h : ∀ v' w', Hid (Own2 w' B v' (n + 1) (upd2 Q n x1 x2)) → Hid (w.grownBy w' v.ownBlock) → Hid (Moved w v v') → wpList P ops Q' rest (a.put o.dst v') w') : wpList P ops Q' (o :: rest) a w := by
  obtain ⟨v', w', hrun, r1, r2, r3⟩ := run_appN (P := P) w t o.type B 98 _ 2 16 ht h2 rfl (by omega) v n _ hown ⟨g, 0, none⟩ c [.int .i64 (x1 : Nat), .int .i64 (x2 : Nat)] rfl (fun j u hu => by
    match j with
    | 0 => simp at hu; subst hu; simpa [Addr.add] using hy0
    | 1 => simp at hu; subst hu; simpa [Addr.add] using hy1
    | j + 2 => simp at hu) (by simp [Value.oneCell']) (by unfold maxLen; omega) (by omega) hbase
  rw [own2_step] at r1
  refine wpList_plain hgd fun K hK' => ?_
  unfold Oper.wp
  simp [execOp, ho, resolve, invoke, builtin, hs, hx, hrun, Result.andThen]
  exact hK' _ _ (h v' w' r1 r2 r3)
theorem Own2.lt {w : World} {B n : Nat} {v : Value} {Q : Nat → Nat → Nat} (h : Own2 w B v n Q) : ∀ k, v.ownBlock = some k → B ≤ k ∧ k < w.heap.size := World.ownsRow.lt h
theorem Own2.only {S : Nat → Prop} {w w' : World} {B n : Nat} {v : Value} {Q : Nat → Nat → Nat} (h : Own2 w B v n Q) (ho : Only S w w') (hv : ∀ k, v.ownBlock = some k → ¬ S k) : Own2 w' B v n Q := by
  refine ⟨h.1, ?_⟩
  rcases h.2 with hn | ⟨g, cap, cur, rfl, hB, hgg, rest⟩
  · exact .inl hn
  · exact .inr ⟨g, cap, cur, rfl, hB, by rw [ho.block g (Array.getElem?_eq_some_iff.1 hgg).1 (hv g rfl)]; exact hgg, rest⟩
theorem Own2.some_ {w : World} {B n : Nat} {v : Value} {Q : Nat → Nat → Nat} (h : Own2 w B v (n + 1) Q) : ∃ g c, v = .slice (some ⟨g, 0, none⟩) (n + 1) c ∧ n + 1 ≤ c := by
  rcases h.2 with ⟨_, h0⟩ | ⟨g, cap, cur, rfl, hB, hgg, hnc, _⟩
  · omega
  · exact ⟨g, cap, rfl, hnc⟩
theorem Own2.get {w : World} {B n g c : Nat} {Q : Nat → Nat → Nat} (h : Own2 w B (.slice (some ⟨g, 0, none⟩) n c) n Q) {k : Nat} (hk : k < n * 2) : w.cell? ⟨g, k, none⟩ = some (pv Q k) ∧ w.frozen? ⟨g, k, none⟩ = false := by
  rcases h.2 with ⟨h0, _⟩ | ⟨g', cap, cur, hv, hB, hgg, hnc, hm, hs, ht⟩
  · cases h0
  · simp only [Value.slice.injEq, Option.some.injEq, Addr.mk.injEq] at hv
    obtain ⟨⟨rfl, _⟩, _, rfl⟩ := hv
    have : (cur.toList.take (n * 2))[k]? = some (pv Q k) := by rw [ht]; simp [hk]
    rw [List.getElem?_take, if_pos hk] at this
    constructor
    · simp only [World.cell?, hgg]
      rw [← Array.getElem?_toList]; exact this
    · simp [World.frozen?, hgg]
theorem Own2.shorter {w : World} {B n g c : Nat} {Q : Nat → Nat → Nat} (h : Own2 w B (.slice (some ⟨g, 0, none⟩) (n + 1) c) (n + 1) Q) : Own2 w B (.slice (some ⟨g, 0, none⟩) n c) n Q := by
  rcases h.2 with ⟨h0, _⟩ | ⟨g', cap, cur, hv, hB, hgg, hnc, hm, hs, ht⟩
  · cases h0
  · simp only [Value.slice.injEq, Option.some.injEq, Addr.mk.injEq] at hv
    obtain ⟨⟨rfl, _⟩, _, rfl⟩ := hv
    refine ⟨by simp, .inr ⟨g, c, cur, rfl, hB, hgg, by omega, hm, hs, ?_⟩⟩
    have : (cur.toList.take ((n + 1) * 2)).take (n * 2) = ((List.range ((n + 1) * 2)).map (pv Q)).take (n * 2) := by rw [ht]
    rw [List.take_take, show min (n * 2) ((n + 1) * 2) = n * 2 by omega] at this
    rw [this, ← List.map_take, List.take_range, show min (n * 2) ((n + 1) * 2) = n * 2 by omega]
/-- The top frame's next is turned. -/
theorem Own2.next {w : World} {B n g c z : Nat} {Q : Nat → Nat → Nat} (h : Own2 w B (.slice (some ⟨g, 0, none⟩) (n + 1) c) (n + 1) Q) : Own2 (w.setCell ⟨g, n * 2 + 1, none⟩ (.int .i64 (z : Nat))) B (.slice (some ⟨g, 0, none⟩) (n + 1) c) (n + 1) (upd2 Q n (Q n 0) z) := by
  rcases h.2 with ⟨h0, _⟩ | ⟨g', cap, cur, hv, hB, hgg, hnc, hm, hs, ht⟩
  · cases h0
  · simp only [Value.slice.injEq, Option.some.injEq, Addr.mk.injEq] at hv
    obtain ⟨⟨rfl, _⟩, _, rfl⟩ := hv
    refine ⟨by simp, .inr ⟨g, c, _, rfl, hB, heap_setCell_at w g _ _ cur 98 (0, 0) hgg, hnc, hm, by simpa using hs, ?_⟩⟩
    apply List.ext_getElem?
    intro k
    rw [List.getElem?_take]
    by_cases hk : k < (n + 1) * 2
    · rw [if_pos hk]
      have h1 : (cur.toList.take ((n + 1) * 2))[k]? = some (pv Q k) := by rw [ht]; simp [hk]
      rw [List.getElem?_take, if_pos hk] at h1
      simp only [Array.toList_setIfInBounds, List.getElem?_set, List.getElem?_map, List.getElem?_range hk, Option.map_some]
      by_cases e : n * 2 + 1 = k
      · subst e
        rw [if_pos rfl, if_pos (by simp; omega), pv_odd]
        simp [upd2]
      · rw [if_neg e, h1]
        simp only [pv, upd2]
        by_cases e2 : k / 2 = n
        · rw [if_pos e2, if_pos (by omega), e2, show k % 2 = 0 by omega]
        · rw [if_neg e2]
    · rw [if_neg hk, List.getElem?_eq_none (by simp; omega)]
theorem Own2.one (w : World) (B a : Nat) (hB : B ≤ w.heap.size) : Own2 (w.alloc (.cells #[.int .i64 (a : Nat), .int .i64 0] 98)) B (.slice (some ⟨w.heap.size, 0, none⟩) 1 1) 1 (fun _ j => if j = 0 then a else 0) := by
  refine ⟨by simp, .inr ⟨w.heap.size, 1, _, rfl, hB, heap_alloc_last w _, Nat.le_refl _, by unfold maxLen; omega, rfl, ?_⟩⟩
  rfl
end Go.Proofs.Qxb6616383a
