/-
  Laws of the walk in the words of Arr and Row: make, append, boxes.
-/
import Derived.Test.Qxb6616383aMem
import Derived.Test.Qxb6616383aOrd
import Derived.BigQuiet
import Derived.Deep.QuietTactic
import Derived.Deep.LoopGhost
import Derived.Deep.DeepCutAuto
import Derived.OwnWalk
namespace Go.Proofs.Qxb6616383a
open Go.RowKit
open Plain

/-- The world has grown: what was there stands. -/
structure New (w w' : World) : Prop where
  below : Below w.heap.size w w'
  lt : w.heap.size < w'.heap.size

/-- The block g begins with the n cells f 0, f 1, ... -/
def Row (w : World) (g t n : Nat) (f : Nat → Value) : Prop := ∃ cur : Array Value, w.heap[g]? = some (.cells cur t (0, 0)) ∧ n ≤ cur.size ∧ ∀ i, i < n → cur[i]? = some (f i)
theorem Arr.row {w : World} {b t n : Nat} {f : Nat → Value} (h : Arr w b t n f) : Row w b t n f := ⟨_, h, by simp, fun i hi => tab_get n f i hi⟩
theorem Row.cell {w : World} {b t n : Nat} {f : Nat → Value} (h : Row w b t n f) {i : Nat} (hi : i < n) : w.cell? ⟨b, i, none⟩ = some (f i) := by
  obtain ⟨cur, hh, _, hc⟩ := h
  simp only [World.cell?, hh]
  exact hc i hi
theorem Row.free {w : World} {b t n : Nat} {f : Nat → Value} (h : Row w b t n f) (i : Nat) : w.frozen? ⟨b, i, none⟩ = false := by
  obtain ⟨cur, hh, _, hc⟩ := h
  simp [World.frozen?, hh]
theorem Row.lt {w : World} {b t n : Nat} {f : Nat → Value} (h : Row w b t n f) : b < w.heap.size := by
  obtain ⟨cur, hh, _, hc⟩ := h
  exact (Array.getElem?_eq_some_iff.1 hh).1
theorem Row.below {w w' : World} {b t n B : Nat} {f : Nat → Value} (h : Row w b t n f) (hb : Below B w w') (hB : b < B) : Row w' b t n f := by
  obtain ⟨cur, hh, r⟩ := h
  exact ⟨cur, (hb.block b hB).trans hh, r⟩
theorem Row.grown {w w' : World} {b t n : Nat} {f : Nat → Value} {row : Option Nat} (h : Row w b t n f) (hg : w.grownBy w' row) (hne : some b ≠ row) : Row w' b t n f := by
  have hl := h.lt
  obtain ⟨cur, hh, r⟩ := h
  exact ⟨cur, (hg.block b hl hne).trans hh, r⟩
theorem Row.new {w w' : World} {b t n : Nat} {f : Nat → Value} (h : Row w b t n f) (hn : New w w') : Row w' b t n f := h.below hn.below h.lt
theorem Arr.new {w w' : World} {b t n : Nat} {f : Nat → Value} (h : Arr w b t n f) (hn : New w w') : Arr w' b t n f := h.below hn.below h.lt
theorem Row.congr {w : World} {b t n : Nat} {f g : Nat → Value} (h : Row w b t n f) (hfg : ∀ i, i < n → f i = g i) : Row w b t n g := by
  obtain ⟨cur, hh, hl, hc⟩ := h
  exact ⟨cur, hh, hl, fun i hi => by rw [hc i hi, hfg i hi]⟩
theorem Row.less {w : World} {b t n m : Nat} {f : Nat → Value} (h : Row w b t n f) (hm : m ≤ n) : Row w b t m f := by
  obtain ⟨cur, hh, hl, hc⟩ := h
  exact ⟨cur, hh, by omega, fun i hi => hc i (by omega)⟩
theorem Row.other {w : World} {b t n : Nat} {f : Nat → Value} (h : Row w b t n f) {a : Addr} (ha : b ≠ a.block) (v : Value) : Row (w.setCell a v) b t n f := by
  obtain ⟨cur, hh, r⟩ := h
  exact ⟨cur, (Below.heap_setCell _ _ _ _ ha).trans hh, r⟩
theorem Row.alloc {w : World} {b t n : Nat} {f : Nat → Value} (h : Row w b t n f) (o : Obj) : Row (w.alloc o) b t n f := by
  have hl := h.lt
  obtain ⟨cur, hh, r⟩ := h
  exact ⟨cur, (Below.heap_alloc _ _ _ hl).trans hh, r⟩
/-- What a slice owns. -/
theorem Row.own {w : World} {base t n g c : Nat} {xs : List Value} {f : Nat → Value} (h : w.ownsRow base t 1 (.slice (some ⟨g, 0, none⟩) n c) n xs) (hf : ∀ i, i < n → xs[i]? = some (f i)) : Row w g t n f := by
  rcases h.2 with ⟨h1, _⟩ | ⟨g', cap, cur, hv, _, hh, hnc, _, hs, ht⟩
  · cases h1
  · simp only [Value.slice.injEq, Option.some.injEq, Addr.mk.injEq] at hv
    obtain ⟨⟨rfl, _⟩, _, rfl⟩ := hv
    refine ⟨cur, hh, by omega, fun i hi => ?_⟩
    have := hf i hi
    rw [← ht, List.getElem?_take] at this
    simp only [Nat.mul_one, hi, if_true] at this
    rw [← this]; simp
/-- A slice that owns its whole block. -/
theorem Arr.own {w : World} {base t n g : Nat} {xs : List Value} {f : Nat → Value} (h : w.ownsRow base t 1 (.slice (some ⟨g, 0, none⟩) n n) n xs) (hf : ∀ i, i < n → xs[i]? = some (f i)) : Arr w g t n f := by
  have hl := h.1
  rcases h.2 with ⟨h1, _⟩ | ⟨g', cap, cur, hv, _, hh, hnc, _, hs, ht⟩
  · cases h1
  · simp only [Value.slice.injEq, Option.some.injEq, Addr.mk.injEq] at hv
    obtain ⟨⟨rfl, _⟩, _, rfl⟩ := hv
    unfold Arr
    rw [hh]
    congr 2
    apply Array.ext'
    rw [List.take_of_length_le (by simp [hs])] at ht
    rw [ht]
    apply List.ext_getElem?
    intro i
    by_cases hi : i < n
    · rw [hf i hi]; simp [hi]
    · rw [List.getElem?_eq_none (by rw [hl]; omega), List.getElem?_eq_none (by simp; omega)]
theorem New.grown {w w' : World} (hg : w.grownBy w' none) (hl : w.heap.size < w'.heap.size) : New w w' :=
  ⟨(Below.refl _ _).grown hg (Nat.le_refl _) (fun k hk => by cases hk), hl⟩

/-- 'make([]T, n)'. -/
theorem make_arr {P : Program} (w : World) {ops : Array Oper} {rest : List Oper} {o : Oper} {a : Act} {Q : Exit → Act → World → Prop}
    (hg : o.guard = none) (l c : Operand) (t : TypeId) (hop : o.op = Op.makeSlice t l c)
    (e : TypeId) (z : Value) (bytes : Nat) (h1 : P.underlying t = some (.slice e)) (h2 : (P.info? e).map (fun i => (i.zero, i.size, i.bytes)) = some (some z, 1, bytes)) (hz : z.cells = #[z])
    (kl kc : IntKind) (L C : Int) (n : Nat) (hl : a.eval l = .int kl L) (hc : a.eval c = .int kc C) (hL : L = (n : Int)) (hC : C = (n : Int)) (b2 : bytes * n ≤ 281474976710656) (b3 : n ≤ maxLen)
    (hK : ∀ w', Hid (Arr w' w.heap.size e n (fun _ => z)) → Hid (New w w') → wpList P ops Q rest (a.put o.dst (.slice (some ⟨w.heap.size, 0, none⟩) n n)) w') :
    wpList P ops Q (o :: rest) a w := by
  obtain ⟨i, hi, hz1, hz2, hz3⟩ := info_parts h2
  refine wpList_make_full w hg l c t hop w.heap.size e i z 1 h1 hi hz1 hz2 kl kc L C n hl hc hL hC (by rw [hz3]; exact b2) b3 (Nat.le_refl _) ?_
  intro w' hown hgr
  exact hK w' (Arr.made hz hown) (New.grown hgr (hown.lt w.heap.size rfl).2)
/-- 'make([]T, 0, n)'. -/
theorem make_own {P : Program} (w : World) {ops : Array Oper} {rest : List Oper} {o : Oper} {a : Act} {Q : Exit → Act → World → Prop}
    (hg : o.guard = none) (l c : Operand) (t : TypeId) (hop : o.op = Op.makeSlice t l c)
    (e : TypeId) (z : Value) (bytes : Nat) (h1 : P.underlying t = some (.slice e)) (h2 : (P.info? e).map (fun i => (i.zero, i.size, i.bytes)) = some (some z, 1, bytes))
    (kl kc : IntKind) (C : Int) (n : Nat) (hl : a.eval l = .int kl 0) (hc : a.eval c = .int kc C) (hC : C = (n : Int)) (b2 : bytes * n ≤ 281474976710656) (b3 : n ≤ maxLen)
    (hK : ∀ w', Hid (w'.ownsRow w.heap.size e 1 (.slice (some ⟨w.heap.size, 0, none⟩) 0 n) 0 []) → Hid (New w w') → wpList P ops Q rest (a.put o.dst (.slice (some ⟨w.heap.size, 0, none⟩) 0 n)) w') :
    wpList P ops Q (o :: rest) a w := by
  obtain ⟨i, hi, hz1, hz2, hz3⟩ := info_parts h2
  refine wpList_make_own w hg l c t hop w.heap.size e i z 1 h1 hi hz1 hz2 kl kc C n hl hc hC (by rw [hz3]; exact b2) b3 (Nat.le_refl _) ?_
  intro w' hown hgr
  exact hK w' hown (New.grown hgr (hown.lt w.heap.size rfl).2)

/-- The slice v owns its row: n cells f 0, f 1, ... -/
def Own (w : World) (B t : Nat) (v : Value) (n : Nat) (f : Nat → Value) : Prop := w.ownsRow B t 1 v n ((List.range n).map f)
theorem Own.nil (w : World) (B t : Nat) (f : Nat → Value) : Own w B t (.slice none 0 0) 0 f := World.ownsRow_nil w B t 1
theorem Own.row {w : World} {B t n g c : Nat} {f : Nat → Value} (h : Own w B t (.slice (some ⟨g, 0, none⟩) n c) n f) : Row w g t n f := Row.own h (fun i hi => by simp [hi])
theorem Own.arr {w : World} {B t n g : Nat} {f : Nat → Value} (h : Own w B t (.slice (some ⟨g, 0, none⟩) n n) n f) : Arr w g t n f := Arr.own h (fun i hi => by simp [hi])
theorem Own.congr {w : World} {B t n : Nat} {v : Value} {f g : Nat → Value} (h : Own w B t v n f) (e : ∀ i, i < n → f i = g i) : Own w B t v n g := by
  unfold Own at *
  rw [← List.map_congr_left (fun i hi => e i (by simpa using hi))]
  exact h
theorem Own.alloc {w : World} {B t n : Nat} {v : Value} {f : Nat → Value} (h : Own w B t v n f) (o : Obj) : Own (w.alloc o) B t v n f := World.ownsRow.alloc h o
theorem Own.grown {w w' : World} {B t n : Nat} {v : Value} {f : Nat → Value} {row : Option Nat} (h : Own w B t v n f) (hg : w.grownBy w' row) (hne : v.ownBlock = none ∨ v.ownBlock ≠ row) : Own w' B t v n f := World.ownsRow.kept h hg hne
theorem Own.below {w w' : World} {B C t n : Nat} {v : Value} {f : Nat → Value} (h : Own w B t v n f) (hb : Below C w w') (hv : ∀ k, v.ownBlock = some k → k < C) : Own w' B t v n f := by
  refine ⟨h.1, ?_⟩
  rcases h.2 with hn | ⟨g, cap, cur, rfl, hB, hgg, rest⟩
  · exact .inl hn
  · exact .inr ⟨g, cap, cur, rfl, hB, by rw [hb.block g (hv g rfl)]; exact hgg, rest⟩
theorem Own.setCell {w : World} {B t n : Nat} {v : Value} {f : Nat → Value} (h : Own w B t v n f) {a : Addr} (ha : v.ownBlock ≠ some a.block) (u : Value) : Own (w.setCell a u) B t v n f := by
  refine ⟨h.1, ?_⟩
  rcases h.2 with hn | ⟨g, cap, cur, rfl, hB, hgg, rest⟩
  · exact .inl hn
  · exact .inr ⟨g, cap, cur, rfl, hB, by rw [Below.heap_setCell _ _ _ _ (by simpa [Value.ownBlock] using ha)]; exact hgg, rest⟩
/-- Either nil or a row of its own. -/
theorem Own.cases {w : World} {B t n : Nat} {v : Value} {f : Nat → Value} (h : Own w B t v n f) : (v = .slice none 0 0 ∧ n = 0) ∨ ∃ g c, v = .slice (some ⟨g, 0, none⟩) n c ∧ B ≤ g ∧ Row w g t n f := by
  have h' := h
  rcases h.2 with hn | ⟨g, cap, cur, rfl, hB, hgg, rest⟩
  · exact .inl hn
  · exact .inr ⟨g, cap, rfl, hB, h'.row⟩
theorem Own.mono {w : World} {B C t n : Nat} {v : Value} {f : Nat → Value} (h : Own w B t v n f) (hC : C ≤ B) : Own w C t v n f := by
  refine ⟨h.1, ?_⟩
  rcases h.2 with hn | ⟨g, cap, cur, rfl, hB, hgg, rest⟩
  · exact .inl hn
  · exact .inr ⟨g, cap, cur, rfl, by omega, hgg, rest⟩
theorem own_step {n : Nat} (f : Nat → Value) (y : Value) : (List.range n).map f ++ [y] = (List.range (n + 1)).map (upd f n y) := by
  rw [List.range_succ, List.map_append]
  congr 1
  · exact List.map_congr_left (fun i hi => by have : i < n := by simpa using hi
                                              simp [upd, show i ≠ n by omega])
  · simp [upd]
theorem one_cell {w : World} {g : Nat} {y : Value} (h : w.cell? ⟨g, 0, none⟩ = some y) : ∀ j u, [y][j]? = some u → w.cell? ((⟨g, 0, none⟩ : Addr).add j) = some u := by
  intro j u hu
  cases j with
  | zero => simp at hu; subst hu; simpa [Addr.add] using h
  | succ j => simp at hu
/-- 'append(v, y)', whatever the capacity. -/
theorem app_one {P : Program} (w : World) {ops : Array Oper} {rest : List Oper} {o : Oper} {a : Act} {Q : Exit → Act → World → Prop}
    (hgd : o.guard = none) (s x : Operand) (t : TypeId) (ho : o.op = .call { callee := .builtin .append, args := #[s, x], argTypes := #[t, t] })
    (B : Nat) (e : TypeId) (z : Value) (bytes : Nat) (ht : P.underlying t = some (.slice e)) (h2 : (P.info? e).map (fun i => (i.zero, i.size, i.bytes)) = some (some z, 1, bytes)) (hz : z.cells.size = 1)
    (v : Value) (n : Nat) (f : Nat → Value) (hs : a.eval s = v) (hown : Own w B e v n f)
    (g c : Nat) (y : Value) (hx : a.eval x = .slice (some ⟨g, 0, none⟩) 1 c) (hy : w.cell? ⟨g, 0, none⟩ = some y) (h1 : y.oneCell' = true) (h63 : n + 1 ≤ maxLen) (hbytes : (n + 1) * bytes ≤ 140737488355328) (hbase : B ≤ w.heap.size)
    (h : ∀ v' w', Hid (Own w' B e v' (n + 1) (upd f n y)) → Hid (w.grownBy w' v.ownBlock) → wpList P ops Q rest (a.put o.dst v') w') : wpList P ops Q (o :: rest) a w := by
  obtain ⟨i, hi, hz1, hz2, hz3⟩ := info_parts h2
  refine wpList_append_own w hgd s x t ho B e i z 1 bytes ht hi hz1 hz2 hz3 hz (by omega) v n _ hs hown ⟨g, 0, none⟩ 1 c [y] hx rfl (one_cell hy) (by simpa using h1) h63 hbytes hbase ?_
  intro v' w' ho' hgr _
  rw [own_step] at ho'
  exact h v' w' ho' hgr
/-- 'append(v, y)' where there is room. -/
theorem app_fit {P : Program} (w : World) {ops : Array Oper} {rest : List Oper} {o : Oper} {a : Act} {Q : Exit → Act → World → Prop}
    (hgd : o.guard = none) (s x : Operand) (t : TypeId) (ho : o.op = .call { callee := .builtin .append, args := #[s, x], argTypes := #[t, t] })
    (B : Nat) (e : TypeId) (z : Value) (bytes : Nat) (ht : P.underlying t = some (.slice e)) (h2 : (P.info? e).map (fun i => (i.zero, i.size, i.bytes)) = some (some z, 1, bytes))
    (b n cap : Nat) (f : Nat → Value) (hs : a.eval s = .slice (some ⟨b, 0, none⟩) n cap) (hown : Own w B e (.slice (some ⟨b, 0, none⟩) n cap) n f)
    (g c : Nat) (y : Value) (hx : a.eval x = .slice (some ⟨g, 0, none⟩) 1 c) (hy : w.cell? ⟨g, 0, none⟩ = some y) (h1 : y.oneCell' = true) (hfit : n + 1 ≤ cap)
    (h : ∀ w', Hid (Own w' B e (.slice (some ⟨b, 0, none⟩) (n + 1) cap) (n + 1) (upd f n y)) → Hid (w.grownBy w' (some b)) → wpList P ops Q rest (a.put o.dst (.slice (some ⟨b, 0, none⟩) (n + 1) cap)) w') : wpList P ops Q (o :: rest) a w := by
  obtain ⟨i, hi, hz1, hz2, hz3⟩ := info_parts h2
  refine wpList_append_fits w hgd s x t ho B e i 1 ht hi hz2 b n cap _ hs hown ⟨g, 0, none⟩ 1 c [y] hx rfl (one_cell hy) (by simpa using h1) hfit ?_
  intro w' ho' hgr
  rw [own_step] at ho'
  exact h w' ho' hgr
/-- A slice that came in: l cells f 0, f 1, ... -/
structure SArg (w : World) (ao : Option Addr) (l c : Nat) (f : Nat → Value) : Prop where
  none_ : ao = none → l = 0 ∧ c = 0
  cell : ∀ ad, ao = some ad → ∀ i, i < l → w.cell? (ad.add i) = some (f i)
theorem SArg.at_ {w : World} {ao : Option Addr} {l c : Nat} {f : Nat → Value} (h : SArg w ao l c f) (hl : 0 < l) : ∃ b o, ao = some ⟨b, o, none⟩ ∧ ∀ i, i < l → w.cell? ⟨b, o + i, none⟩ = some (f i) := by
  cases ao with
  | none => have := h.none_ rfl; omega
  | some ad =>
    obtain ⟨b, off, spot⟩ := ad
    have hspot : spot = none := by simpa [Addr.add] using World.cell?_spot (h.cell _ rfl 0 hl)
    subst hspot
    exact ⟨b, off, rfl, fun j hj => by rw [← Go.WideShapes.add_plain]; exact h.cell _ rfl j hj⟩
theorem SArg.kept {w w' : World} {ao : Option Addr} {l c : Nat} {f : Nat → Value} (h : SArg w ao l c f) (hb : Below w.heap.size w w') : SArg w' ao l c f := by
  refine ⟨h.none_, fun ad hd i hi => ?_⟩
  have h1 := h.cell ad hd i hi
  rw [hb.cell (World.block_lt_of_cell? w _ h1)]; exact h1
/-- 'append(v, a...)' where there is room. -/
theorem app_all {P : Program} (w : World) {ops : Array Oper} {rest : List Oper} {o : Oper} {a : Act} {Q : Exit → Act → World → Prop}
    (hgd : o.guard = none) (s x : Operand) (t : TypeId) (ho : o.op = .call { callee := .builtin .append, args := #[s, x], argTypes := #[t, t] })
    (B : Nat) (e : TypeId) (z : Value) (bytes : Nat) (ht : P.underlying t = some (.slice e)) (h2 : (P.info? e).map (fun i => (i.zero, i.size, i.bytes)) = some (some z, 1, bytes))
    (b n cap : Nat) (f : Nat → Value) (hs : a.eval s = .slice (some ⟨b, 0, none⟩) n cap) (hown : Own w B e (.slice (some ⟨b, 0, none⟩) n cap) n f)
    (ao : Option Addr) (l c : Nat) (y : Nat → Value) (hx : a.eval x = .slice ao l c) (hy : SArg w ao l c y) (h1 : ∀ i, (y i).oneCell' = true) (hfit : n + l ≤ cap)
    (h : ∀ w', Hid (Own w' B e (.slice (some ⟨b, 0, none⟩) (n + l) cap) (n + l) (fun i => if i < n then f i else y (i - n))) → Hid (w.grownBy w' (some b)) → wpList P ops Q rest (a.put o.dst (.slice (some ⟨b, 0, none⟩) (n + l) cap)) w') : wpList P ops Q (o :: rest) a w := by
  obtain ⟨i, hi, hz1, hz2, hz3⟩ := info_parts h2
  refine wpList_append_fits_any w hgd s x t ho B e i 1 ht hi hz2 b n cap _ hs hown ao l c ((List.range l).map y) hx (by simp) hy.none_ ?_ ?_ hfit ?_
  · intro ad hd j u hu
    have hj : j < l := by have := (List.getElem?_eq_some_iff.1 hu).1; simpa using this
    rw [hy.cell ad hd j hj, ← hu]; simp [hj]
  · intro u hu
    obtain ⟨k, _, rfl⟩ := List.mem_map.1 hu
    exact h1 k
  intro w' ho' hgr
  refine h w' ?_ hgr
  show World.ownsRow _ _ _ _ _ _ _
  have e : (List.range n).map f ++ (List.range l).map y = (List.range (n + l)).map (fun i => if i < n then f i else y (i - n)) := by
    apply List.ext_getElem
    · simp
    · intro k k1 k2
      simp only [List.length_append, List.length_map, List.length_range] at k1
      rw [List.getElem_append]
      simp only [List.length_map, List.length_range]
      by_cases hk : k < n
      · simp [hk]
      · simp [hk]
  rw [← e]; exact ho'
/-- Nothing that was there has turned but what S names. -/
structure Only (S : Nat → Prop) (w w' : World) : Prop where
  os : w'.os = w.os
  tape : w'.tape = w.tape
  output : w'.output = w.output
  size : w.heap.size ≤ w'.heap.size
  block : ∀ k, k < w.heap.size → ¬ S k → w'.heap[k]? = w.heap[k]?
theorem Only.refl (S : Nat → Prop) (w : World) : Only S w w := ⟨rfl, rfl, rfl, Nat.le_refl _, fun _ _ _ => rfl⟩
theorem Only.trans {S : Nat → Prop} {a b c : World} (h : Only S a b) (k : Only S b c) : Only S a c :=
  ⟨k.os.trans h.os, k.tape.trans h.tape, k.output.trans h.output, Nat.le_trans h.size k.size, fun i hi hn => (k.block i (Nat.lt_of_lt_of_le hi h.size) hn).trans (h.block i hi hn)⟩
/-- What is new to the first world may be turned by the second. -/
theorem Only.trans' {S T : Nat → Prop} {a b c : World} (h : Only S a b) (k : Only T b c) (hT : ∀ i, i < a.heap.size → T i → S i) : Only S a c :=
  ⟨k.os.trans h.os, k.tape.trans h.tape, k.output.trans h.output, Nat.le_trans h.size k.size, fun i hi hn => (k.block i (Nat.lt_of_lt_of_le hi h.size) (fun ht => hn (hT i hi ht))).trans (h.block i hi hn)⟩
theorem Only.mono {S T : Nat → Prop} {a b : World} (h : Only S a b) (hT : ∀ i, i < a.heap.size → S i → T i) : Only T a b := ⟨h.os, h.tape, h.output, h.size, fun i hi hn => h.block i hi (fun hs => hn (hT i hi hs))⟩
theorem Only.grown {w w' : World} {row : Option Nat} (hg : w.grownBy w' row) : Only (fun k => some k = row) w w' := ⟨hg.os, hg.tape, hg.output, hg.size, fun k hk hn => hg.block k hk hn⟩
theorem Only.new {w w' : World} (h : New w w') (S : Nat → Prop) : Only S w w' := ⟨h.below.os, h.below.tape, h.below.output, h.below.size, fun k hk _ => h.below.block k hk⟩
theorem Only.belowAll {w w' : World} (h : Below w.heap.size w w') (S : Nat → Prop) : Only S w w' := ⟨h.os, h.tape, h.output, h.size, fun k hk _ => h.block k hk⟩
theorem Only.alloc (w : World) (o : Obj) (S : Nat → Prop) : Only S w (w.alloc o) := ⟨rfl, rfl, rfl, by simp, fun k hk _ => Below.heap_alloc _ _ _ hk⟩
theorem Only.setCell (w : World) (a : Addr) (v : Value) : Only (fun k => k = a.block) w (w.setCell a v) := ⟨rfl, rfl, rfl, by rw [size_setCell]; exact Nat.le_refl _, fun k _ hn => Below.heap_setCell _ _ _ _ hn⟩
theorem Only.drewN (w : World) (k : Nat) (S : Nat → Prop) : Only S w (w.drewN k) := ⟨rfl, rfl, rfl, Nat.le_refl _, fun _ _ _ => rfl⟩
theorem Only.below {S : Nat → Prop} {w w' : World} {B : Nat} (h : Only S w w') (hB : B ≤ w.heap.size) (hS : ∀ k, k < B → ¬ S k) : Below B w w' := ⟨h.os, h.tape, h.output, h.size, fun k hk => h.block k (by omega) (hS k hk)⟩
theorem Arr.only {S : Nat → Prop} {w w' : World} {b t n : Nat} {f : Nat → Value} (h : Arr w b t n f) (ho : Only S w w') (hn : ¬ S b) : Arr w' b t n f := (ho.block b h.lt hn).trans h
theorem Row.only {S : Nat → Prop} {w w' : World} {b t n : Nat} {f : Nat → Value} (h : Row w b t n f) (ho : Only S w w') (hn : ¬ S b) : Row w' b t n f := by
  have hl := h.lt
  obtain ⟨cur, hh, r⟩ := h
  exact ⟨cur, (ho.block b hl hn).trans hh, r⟩
theorem Own.only {S : Nat → Prop} {w w' : World} {B t n : Nat} {v : Value} {f : Nat → Value} (h : Own w B t v n f) (ho : Only S w w') (hv : ∀ k, v.ownBlock = some k → ¬ S k) : Own w' B t v n f := by
  refine ⟨h.1, ?_⟩
  rcases h.2 with hn | ⟨g, cap, cur, rfl, hB, hgg, rest⟩
  · exact .inl hn
  · exact .inr ⟨g, cap, cur, rfl, hB, by rw [ho.block g (Array.getElem?_eq_some_iff.1 hgg).1 (hv g rfl)]; exact hgg, rest⟩
theorem Own.lt {w : World} {B t n : Nat} {v : Value} {f : Nat → Value} (h : Own w B t v n f) : ∀ k, v.ownBlock = some k → B ≤ k ∧ k < w.heap.size := World.ownsRow.lt h
end Go.Proofs.Qxb6616383a
