/-
  Rows of the call's own memory, told by functions of the index.
-/
import Derived.Test.Qxb6616383aRows
import Derived.Test.Qxb6616383aTarjan
import Derived.WalkKit
import Derived.WalkSpells
import Derived.WalkLawsBesides
import Derived.ProofKit
import Derived.Deep.WholeRow
namespace Go.Proofs.Qxb6616383a
open Go.RowKit
open Plain

/-- The block b holds the n cells f 0, f 1, ... -/
def Arr (w : World) (b t n : Nat) (f : Nat → Value) : Prop := w.heap[b]? = some (.cells ((List.range n).map f).toArray t (0, 0))

theorem tab_get (n : Nat) (f : Nat → Value) (i : Nat) (h : i < n) : ((List.range n).map f).toArray[i]? = some (f i) := by simp [h]
theorem tab_set (n : Nat) (f : Nat → Value) (i : Nat) (v : Value) : ((List.range n).map f).toArray.setIfInBounds i v = ((List.range n).map (upd f i v)).toArray := by
  apply Array.ext'
  simp only [Array.toList_setIfInBounds]
  apply List.ext_getElem
  · simp
  · intro k h1 h2
    simp only [List.length_set, List.length_map, List.length_range] at h1
    rw [List.getElem_set]
    simp only [List.getElem_map, List.getElem_range, upd]
    by_cases e : i = k
    · simp [e]
    · simp [e, Ne.symm e]

theorem Arr.cell {w : World} {b t n : Nat} {f : Nat → Value} (h : Arr w b t n f) {i : Nat} (hi : i < n) : w.cell? ⟨b, i, none⟩ = some (f i) := by
  have hh : w.heap[b]? = _ := h
  simp only [World.cell?, hh]
  exact tab_get n f i hi
theorem Arr.free {w : World} {b t n : Nat} {f : Nat → Value} (h : Arr w b t n f) (i : Nat) : w.frozen? ⟨b, i, none⟩ = false := by
  have hh : w.heap[b]? = _ := h
  simp [World.frozen?, hh]
theorem Arr.lt {w : World} {b t n : Nat} {f : Nat → Value} (h : Arr w b t n f) : b < w.heap.size := (Array.getElem?_eq_some_iff.1 h).1
theorem heap_setCell_at (w : World) (b o : Nat) (v : Value) (A : Array Value) (t : TypeId) (fr : Nat × Nat) (h : w.heap[b]? = some (.cells A t fr)) :
    (w.setCell ⟨b, o, none⟩ v).heap[b]? = some (.cells (A.setIfInBounds o v) t fr) := by
  simp [World.setCell, Array.getElem?_modify, h]
theorem size_setCell (w : World) (a : Addr) (v : Value) : (w.setCell a v).heap.size = w.heap.size := by simp [World.setCell]
theorem Arr.set {w : World} {b t n : Nat} {f : Nat → Value} (h : Arr w b t n f) (i : Nat) (v : Value) : Arr (w.setCell ⟨b, i, none⟩ v) b t n (upd f i v) := by
  have := heap_setCell_at w b i v _ t (0, 0) h
  rw [tab_set] at this
  exact this
theorem Arr.other {w : World} {b t n : Nat} {f : Nat → Value} (h : Arr w b t n f) {a : Addr} (ha : b ≠ a.block) (v : Value) : Arr (w.setCell a v) b t n f := by
  unfold Arr
  rw [Below.heap_setCell _ _ _ _ ha]; exact h
theorem Arr.alloc {w : World} {b t n : Nat} {f : Nat → Value} (h : Arr w b t n f) (o : Obj) : Arr (w.alloc o) b t n f := by
  unfold Arr
  rw [Below.heap_alloc _ _ _ h.lt]; exact h
theorem Arr.drew {w : World} {b t n : Nat} {f : Nat → Value} (h : Arr w b t n f) : Arr w.drew b t n f := h
theorem Arr.drewN {w : World} {b t n : Nat} {f : Nat → Value} (h : Arr w b t n f) (k : Nat) : Arr (w.drewN k) b t n f := h
theorem Arr.below {w w' : World} {b t n B : Nat} {f : Nat → Value} (h : Arr w b t n f) (hb : Below B w w') (hB : b < B) : Arr w' b t n f := (hb.block b hB).trans h
theorem Arr.grown {w w' : World} {b t n : Nat} {f : Nat → Value} {row : Option Nat} (h : Arr w b t n f) (hg : w.grownBy w' row) (hne : some b ≠ row) : Arr w' b t n f := (hg.block b h.lt hne).trans h
theorem Arr.congr {w : World} {b t n : Nat} {f g : Nat → Value} (h : Arr w b t n f) (hfg : ∀ i, i < n → f i = g i) : Arr w b t n g := by
  unfold Arr at *
  rw [h]
  congr 2
  apply congrArg
  exact List.map_congr_left (fun i hi => hfg i (by simpa using hi))
/-- A new block of one cell. -/
theorem Arr.one (w : World) (t : TypeId) (v : Value) : Arr (w.alloc (.cells #[v] t)) w.heap.size t 1 (fun _ => v) := by
  unfold Arr
  rw [heap_alloc_last]; rfl
/-- What 'make' lays. -/
theorem Arr.made {w' : World} {g n base e : Nat} {z : Value} (hz : z.cells = #[z]) (h : w'.ownsRow base e 1 (.slice (some ⟨g, 0, none⟩) n n) n (madeCells z.cells (n * 1)).toList) : Arr w' g e n (fun _ => z) := by
  rcases h.2 with ⟨h1, _⟩ | ⟨g', cap, cur, hv, _, hh, _, _, hs, ht⟩
  · cases h1
  · simp only [Value.slice.injEq, Option.some.injEq, Addr.mk.injEq] at hv
    obtain ⟨⟨rfl, _⟩, _, rfl⟩ := hv
    unfold Arr
    rw [hh]
    congr 2
    apply Array.ext'
    rw [List.take_of_length_le (by simp [hs])] at ht
    rw [ht, hz]
    simp only [madeCells, Nat.mul_one, Array.toList_map, Array.toList_range]
    apply List.ext_getElem
    · simp
    · intro i h1 h2
      simp [Nat.mod_one]

/-! ### The shapes that the walks meet -/
def iv (f : Nat → Int) : Nat → Value := fun i => .int .i64 (f i)
def nv (f : Nat → Nat) : Nat → Value := fun i => .int .i64 (f i : Nat)
def bv (f : Nat → Bool) : Nat → Value := fun i => .bool (f i)
def sv (f : Nat → ByteArray) : Nat → Value := fun i => .string (f i)
theorem upd_nv (f : Nat → Nat) (i x : Nat) : upd (nv f) i (.int .i64 (x : Nat)) = nv (upd f i x) := by funext k; simp only [upd, nv]; split <;> rfl
theorem upd_iv (f : Nat → Int) (i : Nat) (x : Int) : upd (iv f) i (.int .i64 x) = iv (upd f i x) := by funext k; simp only [upd, iv]; split <;> rfl
theorem upd_bv (f : Nat → Bool) (i : Nat) (x : Bool) : upd (bv f) i (.bool x) = bv (upd f i x) := by funext k; simp only [upd, bv]; split <;> rfl
theorem upd_sv (f : Nat → ByteArray) (i : Nat) (x : ByteArray) : upd (sv f) i (.string x) = sv (upd f i x) := by funext k; simp only [upd, sv]; split <;> rfl

theorem Try.info3 : (Try.prog.info? 3).map (fun i => (i.zero, i.size, i.bytes)) = some (some (.int .i64 0), 1, 8) := by kernel_rfl
theorem Try.info4 : (Try.prog.info? 4).map (fun i => (i.zero, i.size, i.bytes)) = some (some (.bool false), 1, 1) := by kernel_rfl
theorem Try.info9 : (Try.prog.info? 9).map (fun i => (i.zero, i.size, i.bytes)) = some (some (.string ⟨#[]⟩), 1, 16) := by kernel_rfl
theorem Try.info26 : (Try.prog.info? 26).map (fun i => (i.zero, i.size, i.bytes)) = some (some (.slice none 0 0), 1, 24) := by kernel_rfl
theorem ret_int {k : IntKind} {a b : Int} (h : a = b) : Ending.returned (.int k a) = .returned (.int k b) := by rw [h]
theorem ret_bool {a b : Bool} (h : a = b) : Ending.returned (.bool a) = .returned (.bool b) := by rw [h]
end Go.Proofs.Qxb6616383a
