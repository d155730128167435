/-
  append of one element, whatever the capacity: where the row lies behind it.
-/
import Derived.Test.Qxb6616383aLaws
import Derived.Deep.RegionLaw
import Derived.Deep.RegionLawGrows
namespace Go.Proofs.Qxb6616383a
open Go.RowKit
open Plain

/-- The row behind v' is the one behind v, or it is new to w. -/
def Moved (w : World) (v v' : Value) : Prop := v'.ownBlock = v.ownBlock ∨ ∀ k, v'.ownBlock = some k → w.heap.size ≤ k
theorem World.grownBy.weak {w w' : World} (h : w.grownBy w' none) (row : Option Nat) : w.grownBy w' row := ⟨h.os, h.tape, h.output, h.size, fun k hk _ => h.block k hk (by simp)⟩
theorem run_app {P : Program} (w : World) (t ty : TypeId) (B : Nat) (e : TypeId) (z : Value) (bytes : Nat) (ht : P.underlying t = some (.slice e)) (h2 : (P.info? e).map (fun i => (i.zero, i.size, i.bytes)) = some (some z, 1, bytes)) (hz : z.cells.size = 1)
    (v : Value) (n : Nat) (f : Nat → Value) (hown : Own w B e v n f) (g c : Nat) (y : Value) (hy : w.cell? ⟨g, 0, none⟩ = some y) (h1 : y.oneCell' = true) (h63 : n + 1 ≤ maxLen) (hbytes : (n + 1) * bytes ≤ 140737488355328) (hbase : B ≤ w.heap.size) :
    ∃ v' w', (Builtin.append_ #[t, t] ty #[v, .slice (some ⟨g, 0, none⟩) 1 c]).run P w = .ok v' w' ∧ Own w' B e v' (n + 1) (upd f n y) ∧ w.grownBy w' v.ownBlock ∧ Moved w v v' := by
  obtain ⟨i, hi, hz1, hz2, hz3⟩ := info_parts h2
  rcases hown.cases with ⟨rfl, rfl⟩ | ⟨b, cap, rfl, hb, hrow⟩
  · obtain ⟨v', w', hrun, r1, r2, _⟩ := run_append_own (P := P) w w.heap.size t ty e i z 1 bytes ht hi hz1 hz2 hz3 hz (by omega) (.slice none 0 0) 0 [] (World.ownsRow_nil w _ e 1) ⟨g, 0, none⟩ 1 c [y] rfl (one_cell hy) (by simpa using h1) h63 hbytes (Nat.le_refl _)
    refine ⟨v', w', hrun, ?_, r2, Or.inr (fun k hk => (r1.lt k hk).1)⟩
    have r1' : Own w' w.heap.size e v' 1 (upd f 0 y) := by
      show World.ownsRow _ _ _ _ _ _ _
      rw [← own_step]; exact r1
    exact r1'.mono hbase
  · by_cases hfit : n + 1 ≤ cap
    · obtain ⟨w', hrun, r1, r2⟩ := run_append_fits (P := P) w B t ty e i 1 ht hi hz2 b n cap _ hown ⟨g, 0, none⟩ 1 c [y] rfl (one_cell hy) (by simpa using h1) hfit
      rw [own_step] at r1
      exact ⟨_, w', hrun, r1, r2, Or.inl rfl⟩
    · obtain ⟨v', w', hrun, r1, r2⟩ := run_append_arg_grows (P := P) w t ty e i z 1 bytes ht hi hz1 hz2 hz3 hz (by omega) ⟨b, 0, none⟩ n cap ((List.range n).map f) (by simp) (fun j u hu => by
          have hj : j < n := by have := (List.getElem?_eq_some_iff.1 hu).1; simpa using this
          have : (⟨b, 0, none⟩ : Addr).add j = ⟨b, j, none⟩ := by unfold Addr.add; split <;> simp_all
          rw [this, hrow.cell hj, ← hu]; simp [hj]) ⟨g, 0, none⟩ 1 c [y] rfl (one_cell hy) (by omega) h63 hbytes
      rw [own_step] at r1
      exact ⟨v', w', hrun, Own.mono r1 hbase, World.grownBy.weak r2 _, Or.inr (fun k hk => (r1.lt k hk).1)⟩
/-- 'append(v, y)'. -/
theorem app_one' {P : Program} (w : World) {ops : Array Oper} {rest : List Oper} {o : Oper} {a : Act} {Q : Exit → Act → World → Prop}
    (hgd : o.guard = none) (s x : Operand) (t : TypeId) (ho : o.op = .call { callee := .builtin .append, args := #[s, x], argTypes := #[t, t] })
    (B : Nat) (e : TypeId) (z : Value) (bytes : Nat) (ht : P.underlying t = some (.slice e)) (h2 : (P.info? e).map (fun i => (i.zero, i.size, i.bytes)) = some (some z, 1, bytes)) (hz : z.cells.size = 1)
    (v : Value) (n : Nat) (f : Nat → Value) (hs : a.eval s = v) (hown : Own w B e v n f)
    (g c : Nat) (y : Value) (hx : a.eval x = .slice (some ⟨g, 0, none⟩) 1 c) (hy : w.cell? ⟨g, 0, none⟩ = some y) (h1 : y.oneCell' = true) (h63 : n + 1 ≤ maxLen) (hbytes : (n + 1) * bytes ≤ 140737488355328) (hbase : B ≤ w.heap.size)
    (h : ∀ v' w', Hid (Own w' B e v' (n + 1) (upd f n y)) → Hid (w.grownBy w' v.ownBlock) → Hid (Moved w v v') → wpList P ops Q rest (a.put o.dst v') w') : wpList P ops Q (o :: rest) a w := by
  obtain ⟨v', w', hrun, r1, r2, r3⟩ := run_app (P := P) w t o.type B e z bytes ht h2 hz v n f hown g c y hy h1 h63 hbytes hbase
  refine wpList_plain hgd fun K hK' => ?_
  unfold Oper.wp
  simp [execOp, ho, resolve, invoke, builtin, hs, hx, hrun, Result.andThen]
  exact hK' _ _ (h v' w' r1 r2 r3)
/-- The same, as one step of a region that draws. -/
theorem step_app {P : Program} {ops : Array Oper} {o : Oper} {a : Act} {w : World} {K : Act → World → Prop} {Q : Exit → Act → World → Prop} {E : Prop}
    (hgd : o.guard = none) (s x : Operand) (t : TypeId) (ho : o.op = .call { callee := .builtin .append, args := #[s, x], argTypes := #[t, t] })
    (B : Nat) (e : TypeId) (z : Value) (bytes : Nat) (ht : P.underlying t = some (.slice e)) (h2 : (P.info? e).map (fun i => (i.zero, i.size, i.bytes)) = some (some z, 1, bytes)) (hz : z.cells.size = 1)
    (v : Value) (n : Nat) (f : Nat → Value) (hs : a.eval s = v) (hown : Own w B e v n f)
    (g c : Nat) (y : Value) (hx : a.eval x = .slice (some ⟨g, 0, none⟩) 1 c) (hy : w.cell? ⟨g, 0, none⟩ = some y) (h1 : y.oneCell' = true) (h63 : n + 1 ≤ maxLen) (hbytes : (n + 1) * bytes ≤ 140737488355328) (hbase : B ≤ w.heap.size)
    (h : ∀ v' w', Hid (Own w' B e v' (n + 1) (upd f n y)) → Hid (w.grownBy w' v.ownBlock) → Hid (Moved w v v') → K (a.put o.dst v') w') :
    if Region.wanted o (yielded ops a.tmps) = true then Oper.wp P o a w K Q else E := by
  have hw : Region.wanted o (yielded ops a.tmps) = true := by simp [Region.wanted, hgd]
  rw [if_pos hw]
  obtain ⟨v', w', hrun, r1, r2, r3⟩ := run_app (P := P) w t o.type B e z bytes ht h2 hz v n f hown g c y hy h1 h63 hbytes hbase
  unfold Oper.wp
  simp [execOp, ho, resolve, invoke, builtin, hs, hx, hrun, Result.andThen]
  exact h v' w' r1 r2 r3
theorem cell_new (w : World) (y : Value) (t : TypeId) : (w.alloc (.cells #[y] t)).cell? ⟨w.heap.size, 0, none⟩ = some y := (Arr.one w t y).cell (by omega)
theorem Row.set {w : World} {b t n : Nat} {f : Nat → Value} (h : Row w b t n f) (i : Nat) (v : Value) (hi : i < n) : Row (w.setCell ⟨b, i, none⟩ v) b t n (upd f i v) := by
  obtain ⟨cur, hh, hl, hc⟩ := h
  refine ⟨cur.setIfInBounds i v, heap_setCell_at w b i v cur t (0, 0) hh, by simpa using hl, fun k hk => ?_⟩
  rw [Array.getElem?_setIfInBounds]
  by_cases e : i = k
  · subst e
    rw [if_pos rfl, if_pos (by omega)]
    simp [upd]
  · rw [if_neg e, hc k hk]
    simp [upd, Ne.symm e]
theorem Row.drewN {w : World} {b t n : Nat} {f : Nat → Value} (h : Row w b t n f) (k : Nat) : Row (w.drewN k) b t n f := h
/-- A new block of two cells. -/
theorem Arr.two (w : World) (t : TypeId) (a b : Value) : (w.alloc (.cells #[a, b] t)).cell? ⟨w.heap.size, 0, none⟩ = some a ∧ (w.alloc (.cells #[a, b] t)).cell? ⟨w.heap.size, 1, none⟩ = some b := by
  simp only [World.cell?, heap_alloc_last]
  exact ⟨rfl, rfl⟩
end Go.Proofs.Qxb6616383a
