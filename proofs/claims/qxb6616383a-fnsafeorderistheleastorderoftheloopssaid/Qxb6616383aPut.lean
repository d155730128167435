/-
  What the library's sorts leave, in the words of Arr.
-/
import Derived.Test.Qxb6616383aShelf
import Derived.Test.Qxb6616383aAppend
import Derived.Test.Qxb6616383aCount
namespace Go.Proofs.Qxb6616383a
open Go.RowKit
open Plain

/-- F with the list l laid over it from off on. -/
def putF (F : Nat → Int) (off : Nat) (l : List Int) : Nat → Int := fun p => if off ≤ p ∧ p < off + l.length then l.getD (p - off) 0 else F p
theorem heap_put (enc : Int → Value) (w : World) (b off k : Nat) (d : Array Int) (os : Array Obj) (cur : Array Value) (t : TypeId) (fr : Nat × Nat) (h : w.heap[b]? = some (.cells cur t fr)) :
    (Sort.grow (Sort.putRow enc (Sort.ahead w k) b off d) os).heap[b]? = some (.cells (Sort.putCells enc off d cur) t fr) := by
  have hl : b < w.heap.size := (Array.getElem?_eq_some_iff.1 h).1
  rw [Sort.heap_grow_old _ _ (by simpa using hl)]
  show (Array.modify w.heap b _)[b]? = _
  rw [Array.getElem?_modify, if_pos rfl, h]
  rfl
theorem Arr.put {w : World} {b t n : Nat} {F : Nat → Int} (h : Arr w b t n (iv F)) (off : Nat) (l : List Int) (k : Nat) (os : Array Obj) : Arr (Sort.grow (Sort.putRow (Value.int .i64) (Sort.ahead w k) b off l.toArray) os) b t n (iv (putF F off l)) := by
  unfold Arr
  rw [heap_put _ w b off k l.toArray os _ t (0, 0) h]
  congr 2
  unfold Sort.putCells
  apply Array.ext
  · simp
  · intro i h1 h2
    simp only [Array.getElem_mapIdx, List.getElem_toArray, List.getElem_map, List.getElem_range, List.size_toArray, iv, putF]
    by_cases hc : off ≤ i ∧ i < off + l.length
    · rw [if_pos hc, if_pos hc, getElem!_pos _ (i - off) (by simp; omega)]
      simp [List.getD, show i - off < l.length by omega]
    · rw [if_neg hc, if_neg hc]
theorem Only.put (enc : Int → Value) (w : World) (b off k : Nat) (d : Array Int) (os : Array Obj) : Only (fun i => i = b) w (Sort.grow (Sort.putRow enc (Sort.ahead w k) b off d) os) := by
  refine ⟨rfl, rfl, rfl, by rw [Sort.size_grow, Sort.size_putRow]; show w.heap.size ≤ w.heap.size + _; omega, fun i hi hn => ?_⟩
  rw [Sort.heap_grow_old _ _ (by rw [Sort.size_putRow]; exact hi)]
  show (Array.modify w.heap b _)[i]? = _
  rw [Array.getElem?_modify, if_neg (fun e => hn e.symm)]
theorem Arr.holds {w : World} {b t n : Nat} {F : Nat → Int} (h : Arr w b t n (iv F)) (off : Nat) (l : List Int) (hl : off + l.length ≤ n) (he : ∀ j, j < l.length → F (off + j) = l.getD j 0) : Sort.Holds (Value.int .i64) w b off l.toArray := by
  intro j hj
  have hj' : j < l.length := by simpa using hj
  refine ⟨?_, h.free _⟩
  rw [h.cell (by omega), getElem!_pos _ j hj]
  simp only [iv, he j hj']
  simp [List.getD, hj']
end Go.Proofs.Qxb6616383a
