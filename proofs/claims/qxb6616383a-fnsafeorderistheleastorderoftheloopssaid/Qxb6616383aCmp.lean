/-
  The walk of build's closure that compares two names, and slices.SortFunc by it.
-/
import Derived.Test.Qxb6616383aPath
namespace Go.Proofs.Qxb6616383a
open Go.RowKit
open Plain
set_option maxRecDepth 100000 in
set_option maxHeartbeats 4000000 in
theorem cmp_any (w : World) (N1 g c n i j : Nat) (f : Nat → ByteArray) (hb : w.cell? ⟨N1, 0, none⟩ = some (.slice (some ⟨g, 0, none⟩) n c)) (hi : i < n) (hj : j < n) (h1 : w.cell? ⟨g, i, none⟩ = some (.string (f i))) (h2 : w.cell? ⟨g, j, none⟩ = some (.string (f j))) :
    Calls Try.prog 30 #[.int .i64 (i : Nat), .int .i64 (j : Nat), .pointer (some ⟨N1, 0, none⟩)] w fun e w' => e = .returned (.int .i64 (Lib.compareBytes (f i).data.toList (f j).data.toList)) ∧ ∃ q, w' = w.drewN q := by
  go_enter Try.func30, Try.ntmps30
  go_upto_region 1 with fail
  go_quiet (
    (go_at_call 31
     exact Calls.quiet_of_same (Try.strings_Compare _ _ _)))
  go_wp2_with fail
  go_ret
  exact ⟨rfl, _, rfl⟩
section
variable {α : Type} [Inhabited α]
theorem heap_putA (enc : α → Value) (w : World) (b off k : Nat) (d : Array α) (os : Array Obj) (cur : Array Value) (t : TypeId) (fr : Nat × Nat) (h : w.heap[b]? = some (.cells cur t fr)) :
    (Sort.grow (Sort.putRow enc (Sort.ahead w k) b off d) os).heap[b]? = some (.cells (Sort.putCells enc off d cur) t fr) := by
  have hl : b < w.heap.size := (Array.getElem?_eq_some_iff.1 h).1
  rw [Sort.heap_grow_old _ _ (by simpa using hl)]
  show (Array.modify w.heap b _)[b]? = _
  rw [Array.getElem?_modify, if_pos rfl, h]
  rfl
theorem Only.putA (enc : α → Value) (w : World) (b off k : Nat) (d : Array α) (os : Array Obj) : Only (fun i => i = b) w (Sort.grow (Sort.putRow enc (Sort.ahead w k) b off d) os) := by
  refine ⟨rfl, rfl, rfl, by rw [Sort.size_grow, Sort.size_putRow]; show w.heap.size ≤ w.heap.size + _; omega, fun i hi hn => ?_⟩
  rw [Sort.heap_grow_old _ _ (by rw [Sort.size_putRow]; exact hi)]
  show (Array.modify w.heap b _)[i]? = _
  rw [Array.getElem?_modify, if_neg (fun e => hn e.symm)]
end
def encF {n : Nat} (x : Fin n) : Value := .int .i64 ((x.val : Nat) : Int)
def cfF (f : Nat → ByteArray) {n : Nat} (x y : Fin n) : Int := Lib.compareBytes (f x.val).data.toList (f y.val).data.toList
theorem lt_cfF (f : Nat → ByteArray) {n : Nat} (x y : Fin n) : ltOf (cfF f) x y = ltS (f x.val) (f y.val) := by
  unfold ltOf cfF
  have := compare_neg (f x.val) (f y.val)
  cases h : ltS (f x.val) (f y.val) with
  | true => simp [this, h]
  | false => simp [this, h]
theorem enter30 (args : Array Value) (w : World) : (callFunc 30 args).run Try.prog w = .ok (.enter 30 args) w := by kernel_rfl
theorem swo_cfF (f : Nat → ByteArray) (n : Nat) : Sort.SWO (ltOf (cfF f (n := n))) := by
  refine ⟨fun x => ?_, fun x y z h1 h2 => ?_, fun x y z h1 h2 => ?_⟩
  · rw [lt_cfF]; exact ltS_irrefl _
  · rw [lt_cfF] at *; exact ltS_trans h1 h2
  · rw [lt_cfF] at *
    exact leS_trans (a := f z.val) (b := f y.val) (c := f x.val) h2 h1
def idF (n : Nat) : Array (Fin n) := Array.ofFn (fun i => i)
theorem size_idF (n : Nat) : (idF n).size = n := by simp [idF]
/-- slices.SortFunc of the numbers below n by their names. -/
theorem sortf_any (w : World) (BY N1 g c n : Nat) (f : Nat → ByteArray) (hn : 0 < n) (hn2 : n ≤ 100000) (hA : Arr w BY 3 n (nv (fun i => i))) (hB : Arr w N1 22 1 (fun _ => .slice (some ⟨g, 0, none⟩) n c)) (hR : Row w g 9 n (sv f)) (h1 : N1 ≠ BY) (h2 : g ≠ BY) :
    Calls Try.prog 29 #[.slice (some ⟨BY, 0, none⟩) n n, .func (.func 30) #[] #[.pointer (some ⟨N1, 0, none⟩)]] w fun e w' => e = .returned (.tuple #[]) ∧ ∃ s : Nat → Nat, Arr w' BY 3 n (nv s) ∧ (∀ i, i < n → s i < n) ∧ (∀ i j, i < n → j < n → s i = s j → i = j) ∧ (∀ i, i < n → ∃ j, j < n ∧ s j = i) ∧ (∀ i j, i < j → j < n → leS (f (s i)) (f (s j))) ∧ Only (fun k => k = BY) w w' := by
  have : Inhabited (Fin n) := ⟨⟨0, hn⟩⟩
  have hcmp : CmpLays1 Try.prog 30 #[.pointer (some ⟨N1, 0, none⟩)] (encF (n := n)) (cfF f) BY 0 (idF n).size w := by
    refine CmpReads.lays ?_
    intro m os dk hs x y
    have ho : Only (fun i => i = BY) w (sortWorld (encF (n := n)) w BY 0 m dk os) := Only.putA _ w BY 0 m dk os
    have cb := (hB.only ho h1).cell (i := 0) (by omega)
    have cx := (hR.only ho h2).cell x.isLt
    have cy := (hR.only ho h2).cell y.isLt
    exact cmp_any _ N1 g c n x.val y.val f cb x.isLt y.isLt cx cy
  have hH : Sort.Holds (encF (n := n)) w BY 0 (idF n) := by
    intro j hj
    have hj' : j < n := by rw [size_idF] at hj; exact hj
    refine ⟨?_, hA.free _⟩
    rw [hA.cell (by omega), getElem!_pos _ j hj]
    simp [nv, encF, idF]
  have key := Try.slices_SortFunc (encF (n := n)) (fun x => rfl) (cfF f) (swo_cfF f n) 30 #[.pointer (some ⟨N1, 0, none⟩)] BY 0 n (idF n) w enter30 hcmp hH hA.lt (by rw [size_idF]; omega)
  rw [size_idF] at key
  refine key.mono ?_
  rintro e w' ⟨rfl, d', k, os, hp, hst, rfl⟩
  have hds : d'.size = n := by rw [hp.1, size_idF]
  have hperm : d'.toList.Perm (idF n).toList := by
    have := hp.2.2
    have e1 : d'.extract 0 n = d' := by apply Array.ext <;> simp [hds]
    have e2 : (idF n).extract 0 n = idF n := by apply Array.ext <;> simp [size_idF]
    rw [e1, e2] at this
    exact this
  have hnd : d'.toList.Nodup := by
    refine hperm.nodup_iff.2 ?_
    rw [List.nodup_iff_pairwise_ne, List.pairwise_iff_getElem]
    intro i j hi hj hij e
    simp [idF] at e
    omega
  refine ⟨rfl, fun i => (d'[i]!).val, ?_, fun i hi => (d'[i]!).isLt, fun i j hi hj e => ?_, fun i hi => ?_, fun i j hij hj => ?_, Only.putA _ w BY 0 k d' os⟩
  · unfold Arr sortWorld
    rw [heap_putA _ w BY 0 k d' os _ 3 (0, 0) hA]
    congr 2
    unfold Sort.putCells
    apply Array.ext
    · simp
    · intro i i1 i2
      simp only [Array.size_mapIdx, List.size_toArray, List.length_map, List.length_range] at i1
      simp only [Array.getElem_mapIdx, List.getElem_toArray, List.getElem_map, List.getElem_range]
      rw [if_pos (by omega)]
      rfl
  · have hi' : i < d'.toList.length := by simp [hds, hi]
    have hj' : j < d'.toList.length := by simp [hds, hj]
    have e2 : d'.toList[i] = d'.toList[j] := by
      have := Fin.ext e
      rw [getElem!_pos _ i (by omega), getElem!_pos _ j (by omega)] at this
      simpa using this
    rw [List.nodup_iff_pairwise_ne, List.pairwise_iff_getElem] at hnd
    rcases Nat.lt_trichotomy i j with h | h | h
    · exact absurd e2 (hnd i j hi' hj' h)
    · exact h
    · exact absurd e2.symm (hnd j i hj' hi' h)
  · have hm : (⟨i, hi⟩ : Fin n) ∈ d'.toList := hperm.mem_iff.2 (by simp [idF])
    obtain ⟨j, hj, e⟩ := List.getElem_of_mem hm
    have hj' : j < n := by simpa [hds] using hj
    have hj2 : j < d'.size := by omega
    have e2 : d'[j] = ⟨i, hi⟩ := by simpa using e
    refine ⟨j, hj', ?_⟩
    show (d'[j]!).val = i
    rw [getElem!_pos _ j hj2, e2]
  · have := hst i j (by omega) hij hj
    rw [lt_cfF] at this
    exact this
end Go.Proofs.Qxb6616383a
