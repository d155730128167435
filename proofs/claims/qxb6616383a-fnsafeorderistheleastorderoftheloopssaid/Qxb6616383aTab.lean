/-
  A map from texts to numbers that the call itself has laid: its entries in the order in which they came.
-/
import Derived.Test.Qxb6616383aLaws
import Derived.Maps.RangeWalk
namespace Go.Proofs.Qxb6616383a
open Go.RowKit
open Plain
open Go.ChangeMaps (setBlock heap_setBlock_same heap_setBlock_other)
open Go.MapKept (heap_set)

def ent (f : Nat → ByteArray) (v : Nat → Nat) (i : Nat) : MapEntry := { key := .string (f i), val := .int .i64 (v i : Nat), born := i }
def ents (n : Nat) (f : Nat → ByteArray) (v : Nat → Nat) : Array MapEntry := ((List.range n).map (ent f v)).toArray
/-- The map in block b: n entries. -/
def Tab (w : World) (b n : Nat) (f : Nat → ByteArray) (v : Nat → Nat) : Prop := w.heap[b]? = some (.map (ents n f v) n)
theorem Tab.lt {w : World} {b n : Nat} {f : Nat → ByteArray} {v : Nat → Nat} (h : Tab w b n f v) : b < w.heap.size := (Array.getElem?_eq_some_iff.1 h).1
theorem Tab.only {S : Nat → Prop} {w w' : World} {b n : Nat} {f : Nat → ByteArray} {v : Nat → Nat} (h : Tab w b n f v) (ho : Only S w w') (hn : ¬ S b) : Tab w' b n f v := (ho.block b h.lt hn).trans h
/-- The keys stand apart, and none is beyond what a text may measure. -/
structure Keys (n : Nat) (f : Nat → ByteArray) : Prop where
  inj : ∀ i j, i < n → j < n → f i = f j → i = j
  size : ∀ i, i < n → (f i).size ≤ maxLen
theorem keyed9 : Maps.Keyed Try.prog 9 := Maps.string_keyed Try.underlying9
theorem key_str (s : ByteArray) (hs : s.size ≤ maxLen) : keyOf Try.prog 9 (.string s) = some (.string s.data.toList) := by
  simp [keyOf, mapKey, Try.underlying9, hs]
theorem ents_get (n : Nat) (f : Nat → ByteArray) (v : Nat → Nat) (j : Nat) (h : j < n) : (ents n f v).toList[j]? = some (ent f v j) := by simp [ents, h]
theorem ents_mem {n : Nat} {f : Nat → ByteArray} {v : Nat → Nat} {e : MapEntry} : e ∈ (ents n f v).toList ↔ ∃ i, i < n ∧ e = ent f v i := by
  simp only [ents, List.mem_map, List.mem_range]
  constructor
  · rintro ⟨i, h, rfl⟩; exact ⟨i, h, rfl⟩
  · rintro ⟨i, h, rfl⟩; exact ⟨i, h, rfl⟩
theorem find_tab (w : World) {n : Nat} {f : Nat → ByteArray} {v : Nat → Nat} (K : Keys n f) (s : ByteArray) (hs : s.size ≤ maxLen) :
    ((Instr.findKey 9 (.string s) (ents n f v).toList).run Try.prog w = .ok none w ∧ ∀ i, i < n → f i ≠ s) ∨
    ∃ j, j < n ∧ f j = s ∧ (Instr.findKey 9 (.string s) (ents n f v).toList).run Try.prog w = .ok (some (j, .int .i64 (v j : Nat))) w := by
  rcases keyed9.find w (key_str s hs) (ents n f v).toList (fun e he => by
      obtain ⟨i, hi, rfl⟩ := ents_mem.1 he
      exact ⟨_, key_str (f i) (K.size i hi)⟩) with ⟨h1, h2⟩ | ⟨j, e, h1, h2, h3⟩
  · refine Or.inl ⟨h1, fun i hi e => h2 (ent f v i) (ents_mem.2 ⟨i, hi, rfl⟩) ?_⟩
    simp [ent, e]
  · have hj : j < n := by
      have := (List.getElem?_eq_some_iff.1 h2).1
      simpa [ents] using this
    rw [ents_get n f v j hj] at h2
    obtain rfl := Option.some.inj h2
    refine Or.inr ⟨j, hj, ?_, h1⟩
    simpa [ent] using h3
theorem Tab.look_hit {w : World} {b n i : Nat} {f : Nat → ByteArray} {v : Nat → Nat} (h : Tab w b n f v) (K : Keys n f) (hi : i < n) :
    (Instr.lookup 53 (.map (some b)) (.string (f i)) true).run Try.prog w = .ok (.tuple #[.int .i64 (v i : Nat), .bool true]) w := by
  rcases find_tab w (v := v) K (f i) (K.size i hi) with ⟨h1, h2⟩ | ⟨j, hj, e, h1⟩
  · exact absurd rfl (h2 i hi)
  · obtain rfl := K.inj j i hj hi e
    simp [Instr.lookup, run_underlying Try.underlying53, MapKept.run_getObj_map h, keyed9.check w _ (key_str (f j) (K.size j hi)), h1, Result.andThen]
theorem Tab.look_miss {w : World} {b n : Nat} {f : Nat → ByteArray} {v : Nat → Nat} (h : Tab w b n f v) (K : Keys n f) (s : ByteArray) (hs : s.size ≤ maxLen) (hm : ∀ i, i < n → f i ≠ s) :
    (Instr.lookup 53 (.map (some b)) (.string s) true).run Try.prog w = .ok (.tuple #[.int .i64 0, .bool false]) w := by
  have hz : (zeroValue 3).run Try.prog w = .ok (.int .i64 0) w := by kernel_rfl
  rcases find_tab w (v := v) K s hs with ⟨h1, h2⟩ | ⟨j, hj, e, h1⟩
  · simp [Instr.lookup, run_underlying Try.underlying53, MapKept.run_getObj_map h, keyed9.check w _ (key_str s hs), h1, hz, Result.andThen]
  · exact absurd e (hm j hj)
/-- A new key. -/
theorem Tab.push {w : World} {b n x : Nat} {f : Nat → ByteArray} {v : Nat → Nat} (h : Tab w b n f v) (K : Keys n f) (s : ByteArray) (hs : s.size ≤ maxLen) (hm : ∀ i, i < n → f i ≠ s) :
    ∃ w', (Instr.mapUpdate 53 (.map (some b)) (.string s) (.int .i64 (x : Nat))).run Try.prog w = .ok () w' ∧ Tab w' b (n + 1) (upd f n s) (upd v n x) ∧ Only (fun k => k = b) w w' ∧ w'.heap.size = w.heap.size := by
  rcases find_tab w (v := v) K s hs with ⟨h1, h2⟩ | ⟨j, hj, e, h1⟩
  · refine ⟨setBlock w b (.map ((ents n f v).push { key := .string s, val := .int .i64 (x : Nat), born := n }) (n + 1)), ?_, ?_, ?_, ?_⟩
    · simp [Instr.mapUpdate, run_underlying Try.underlying53, MapKept.run_getObj_map h, keyed9.check w _ (key_str s hs), h1, MapKept.run_setObj_map _ h, Result.andThen, setBlock]
    · unfold Tab
      rw [heap_setBlock_same h]
      have e : (ents n f v).push { key := .string s, val := .int .i64 (x : Nat), born := n } = ents (n + 1) (upd f n s) (upd v n x) := by
       apply Array.ext'
       simp only [ents, Array.toList_push]
       have e1 : (List.range n).map (ent (upd f n s) (upd v n x)) = (List.range n).map (ent f v) := List.map_congr_left (fun i hi => by
           have : i < n := by simpa using hi
           simp [ent, upd, show i ≠ n by omega])
       rw [List.range_succ, List.map_append, e1]
       simp [ent, upd]
      rw [e]
    · exact ⟨rfl, rfl, rfl, by simp [setBlock], fun k _ hk => heap_setBlock_other h _ hk⟩
    · simp [setBlock]
  · exact absurd e (hm j hj)
/-- A key that is there. -/
theorem Tab.store {w : World} {b n i x : Nat} {f : Nat → ByteArray} {v : Nat → Nat} (h : Tab w b n f v) (K : Keys n f) (hi : i < n) :
    ∃ w', (Instr.mapUpdate 53 (.map (some b)) (.string (f i)) (.int .i64 (x : Nat))).run Try.prog w = .ok () w' ∧ Tab w' b n f (upd v i x) ∧ Only (fun k => k = b) w w' ∧ w'.heap.size = w.heap.size := by
  rcases find_tab w (v := v) K (f i) (K.size i hi) with ⟨h1, h2⟩ | ⟨j, hj, e, h1⟩
  · exact absurd rfl (h2 i hi)
  · obtain rfl := K.inj j i hj hi e
    have hst := keyed9.stays w (key_str (f j) (K.size j hi))
    have hget : (ents n f v)[j]? = some (ent f v j) := by rw [← Array.getElem?_toList]; exact ents_get n f v j hi
    refine ⟨setBlock w b (.map ((ents n f v).modify j fun e => { e with key := .string (f j), val := .int .i64 (x : Nat) }) n), ?_, ?_, ?_, ?_⟩
    · simp [Instr.mapUpdate, run_underlying Try.underlying53, MapKept.run_getObj_map h, keyed9.check w _ (key_str (f j) (K.size j hi)), h1, hget, ent, hst, MapKept.run_setObj_map _ h, Result.andThen, setBlock]
    · unfold Tab
      rw [heap_setBlock_same h]
      have e : ((ents n f v).modify j fun e => { e with key := .string (f j), val := .int .i64 (x : Nat) }) = ents n f (upd v j x) := by
        apply Array.ext
        · simp [ents]
        · intro k k1 k2
          rw [Array.getElem_modify]
          simp only [ents, List.getElem_toArray, List.getElem_map, List.getElem_range, ent, upd]
          by_cases hk : j = k
          · subst hk; simp
          · simp [hk, Ne.symm hk]
      rw [e]
    · exact ⟨rfl, rfl, rfl, by simp [setBlock], fun k _ hk => heap_setBlock_other h _ hk⟩
    · simp [setBlock]
/-! ### Ranging over it -/
def toCome (n : Nat) (seen : Array Nat) : Nat := ((List.range n).filter (fun i => !seen.contains i)).length
theorem left_size (n : Nat) (f : Nat → ByteArray) (v : Nat → Nat) (seen : Array Nat) : (leftOf (ents n f v) seen).size = toCome n seen := by
  unfold leftOf toCome ents
  rw [← Array.length_toList, Array.toList_filter]
  simp only [List.filter_map, List.length_map]
  rfl
def Iter (w : World) (b r n : Nat) (seen : Array Nat) : Prop := w.heap[r]? = some (.mapIter (some b) n seen n)
theorem Iter.lt {w : World} {b r n : Nat} {seen : Array Nat} (h : Iter w b r n seen) : r < w.heap.size := (Array.getElem?_eq_some_iff.1 h).1
theorem Iter.only {S : Nat → Prop} {w w' : World} {b r n : Nat} {seen : Array Nat} (h : Iter w b r n seen) (ho : Only S w w') (hn : ¬ S r) : Iter w' b r n seen := (ho.block r h.lt hn).trans h
theorem Tab.range {w : World} {b n : Nat} {f : Nat → ByteArray} {v : Nat → Nat} (h : Tab w b n f v) :
    ∃ w', (Instr.range 53 (.map (some b))).run Try.prog w = .ok (.pointer (some ⟨w.heap.size, 0, none⟩)) w' ∧ Iter w' b w.heap.size n #[] ∧ New w w' := by
  refine ⟨_, run_range_map w 53 9 3 b _ n Try.underlying53 h, ?_, ?_⟩
  · exact heap_alloc_new w _
  · exact ⟨⟨rfl, rfl, rfl, by simp, fun k hk => Below.heap_alloc _ _ _ hk⟩, by simp⟩
theorem Tab.next {w : World} {b r n : Nat} {seen : Array Nat} {f : Nat → ByteArray} {v : Nat → Nat} (h : Tab w b n f v) (hi : Iter w b r n seen) (hne : r ≠ b) (ty : TypeId) :
    (toCome n seen = 0 ∧ (Instr.next (.pointer (some ⟨r, 0, none⟩)) false ty).run Try.prog w = .ok (.tuple #[.bool false]) w) ∨
    ∃ i w', i < n ∧ (Instr.next (.pointer (some ⟨r, 0, none⟩)) false ty).run Try.prog w = .ok (.tuple #[.bool true, .string (f i), .int .i64 (v i : Nat)]) w' ∧ Tab w' b n f v ∧ Iter w' b r n (seen.push i) ∧ toCome n (seen.push i) < toCome n seen ∧
      Only (fun k => k = r) w w' ∧ w'.heap.size = w.heap.size ∧ (Instr.entry (.pointer (some ⟨r, 0, none⟩))).run Try.prog w' = .ok (.tuple #[.string (f i), .int .i64 (v i : Nat)]) w' := by
  have hold : ∀ x ∈ (ents n f v).toList, x.born < n := fun x hx => by
    obtain ⟨i, hi, rfl⟩ := ents_mem.1 hx
    exact hi
  rcases run_next_at (P := Try.prog) w ty r b n n seen (ents n f v) n hi h hold (Nat.le_refl _) with ⟨h0, hrun⟩ | ⟨e, he, w1, hal, hrun⟩
  · exact Or.inl ⟨by rw [← left_size n f v]; exact h0, hrun⟩
  · obtain ⟨hem, hes⟩ := mem_left he
    obtain ⟨i, hin, rfl⟩ := ents_mem.1 hem
    have hr1 : w1.heap[r]? = some (.mapIter (some b) n seen n) := by rcases hal with rfl | rfl <;> exact hi
    have hb1 : w1.heap[b]? = some (.map (ents n f v) n) := by rcases hal with rfl | rfl <;> exact h
    have hset := heap_set (o' := .mapIter (some b) n (seen.push i) n) hr1
    have hb' : (setBlock w1 r (.mapIter (some b) n (seen.push i) n)).heap[b]? = some (.map (ents n f v) n) := (hset.2 b (fun e1 => hne e1.symm)).trans hb1
    have hsh := left_shrinks (ents n f v) seen (ent f v i) he
    rw [left_size, left_size] at hsh
    refine Or.inr ⟨i, _, hin, hrun, hb', hset.1, hsh, ?_, ?_, run_entry_at _ r b n seen (ents n f v) n (ent f v i) hset.1 hb' hem ?_⟩
    · rcases hal with rfl | rfl <;> exact ⟨rfl, rfl, rfl, by simp [setBlock], fun k _ hk => hset.2 k hk⟩
    · rcases hal with rfl | rfl <;> simp [setBlock]
    · have : (ents n f v).toList.map (·.born) = List.range n := by
        simp only [ents, List.map_map]
        conv => rhs; rw [← List.map_id (List.range n)]
        rfl
      rw [this]; exact List.nodup_range
end Go.Proofs.Qxb6616383a
