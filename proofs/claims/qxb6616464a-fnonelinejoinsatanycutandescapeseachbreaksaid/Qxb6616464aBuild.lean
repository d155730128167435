/-
  (*strings.Replacer).build at the two pairs of oneLine: the table that it makes.
-/
import Derived.Test.Qxb6616464aRepl
import Derived.LoopN
import Derived.Deep.WholeRow
import Derived.Lib.ConvBytes
namespace Go.Proofs.Qxb6616464a
open Go.RowKit
/-- The table of a byteStringReplacer: 256 slices, then the list of what is replaced. -/
def Zs : Array Value := Array.replicate 256 (.slice none 0 0)
def RS0 (v : Value) : Array Value := Zs.push v
theorem RS0_size (v : Value) : (RS0 v).size = 257 := by simp [RS0, Zs]
theorem build70 (a : Option Addr) (n c : Nat) : (Try.prog.built 70 [(1, .slice a n c)]) = some (RS0 (.slice a n c)) := by kernel_rfl
theorem zero70 : (Try.prog.info? 70).map (·.size) = some 257 := by kernel_rfl
theorem alloc70 (old : Value) (w : World) : (Instr.alloc 70 true old).run Try.prog w = .ok (.pointer (some ⟨w.heap.size, 0, none⟩)) (w.alloc (.cells (RS0 (.slice none 0 0)) 70)) := by kernel_rfl
theorem make35 (w : World) : (Instr.makeSlice 35 (.int .i64 0) (.int .i64 2)).run Try.prog w = .ok (.slice (some ⟨w.heap.size, 0, none⟩) 0 2) (w.alloc (.cells #[.string ⟨#[]⟩, .string ⟨#[]⟩] 9)) := by kernel_rfl
theorem heap_two (w : World) (o1 o2 : Obj) : ((w.alloc o1).alloc o2).heap[w.heap.size + 1]? = some o2 := by
  have := heap_alloc_last (w.alloc o1) o2
  simpa using this
theorem setRow_two (w : World) (o1 : Obj) (c c' : Array Value) (t : TypeId) : ((w.alloc o1).alloc (.cells c t)).setRow (w.heap.size + 1) c' = (w.alloc o1).alloc (.cells c' t) := by
  have := World.setRow_alloc_new (w.alloc o1) c c' t
  simpa using this
theorem oneCell_RS0 (a : Option Addr) (n c : Nat) : (RS0 (.slice a n c)).all (·.oneCell') = true := by kernel_rfl

def U9 : ByteArray := ⟨#[92, 117, 48, 48, 48, 57]⟩
def U10 : ByteArray := ⟨#[92, 117, 48, 48, 48, 97]⟩
/-- The slice v lies among the call's own blocks and holds the bytes of s. -/
def Rep (B : Nat) (W : World) (v : Value) (s : ByteArray) : Prop :=
  ∃ g c, v = .slice (some ⟨g, 0, none⟩) s.size c ∧ B + 2 ≤ g ∧ g < W.heap.size ∧ ∀ j, j < s.size → W.cell? ⟨g, j, none⟩ = some (.int .u8 (s.data.toList.getD j 0).toNat)
def tabTwo : List Value := [.string ⟨#[10]⟩, .string ⟨#[9]⟩]
/-- The table after k of the two entries. -/
structure Tab (w0 : World) (B k : Nat) (W : World) : Prop where
  bel : Below B w0 W
  size : B + 2 ≤ W.heap.size
  row : W.ownsRow B 9 1 (.slice (some ⟨B, 0, none⟩) k 2) k (tabTwo.take k)
  tab : ∃ A, W.heap[B + 1]? = some (.cells A 70 (0, 0)) ∧ A.size = 257 ∧ A[256]? = some (.slice (some ⟨B, 0, none⟩) k 2) ∧ (∀ j, j < 256 → j ≠ 9 → j ≠ 10 → A[j]? = some (.slice none 0 0)) ∧
    (k < 2 → A[9]? = some (.slice none 0 0)) ∧ (k < 1 → A[10]? = some (.slice none 0 0)) ∧ (1 ≤ k → ∃ v, A[10]? = some v ∧ Rep B W v U10) ∧ (2 ≤ k → ∃ v, A[9]? = some v ∧ Rep B W v U9)

theorem Tab.cell256 {w0 W : World} {B k : Nat} (h : Tab w0 B k W) : W.cell? ⟨B + 1, 256, none⟩ = some (.slice (some ⟨B, 0, none⟩) k 2) := by
  obtain ⟨A, hA, _, h256, _⟩ := h.tab
  simp [World.cell?, hA, h256]
theorem Tab.cell10 {w0 W : World} {B : Nat} (h : Tab w0 B 0 W) : W.cell? ⟨B + 1, 10, none⟩ = some (.slice none 0 0) := by
  obtain ⟨A, hA, _, _, _, _, h10, _⟩ := h.tab
  simp [World.cell?, hA, h10 (by omega)]
theorem Tab.cell9 {w0 W : World} {B k : Nat} (h : Tab w0 B k W) (hk : k < 2) : W.cell? ⟨B + 1, 9, none⟩ = some (.slice none 0 0) := by
  obtain ⟨A, hA, _, _, _, h9, _⟩ := h.tab
  simp [World.cell?, hA, h9 hk]

theorem conv10 (W : World) : (convert 67 9 (.slice (some ⟨W.heap.size, 0, none⟩) 1 1)).run Try.prog (W.alloc (.cells #[.int .u8 10] 5)) = .ok (.string ⟨#[10]⟩) (W.alloc (.cells #[.int .u8 10] 5)) :=
  run_convert_bytes_back (P := Try.prog) (W.alloc (.cells #[.int .u8 10] 5)) 67 9 5 ⟨W.heap.size, 0, none⟩ 1 [10] Try.underlying67 Try.underlying5 Try.underlying9 (fun j hj => by
    have : j = 0 := by simp at hj; omega
    subst this
    exact cell_one_new W _ 5 0 _ rfl)
theorem conv9 (W : World) : (convert 67 9 (.slice (some ⟨W.heap.size, 0, none⟩) 1 1)).run Try.prog (W.alloc (.cells #[.int .u8 9] 5)) = .ok (.string ⟨#[9]⟩) (W.alloc (.cells #[.int .u8 9] 5)) :=
  run_convert_bytes_back (P := Try.prog) (W.alloc (.cells #[.int .u8 9] 5)) 67 9 5 ⟨W.heap.size, 0, none⟩ 1 [9] Try.underlying67 Try.underlying5 Try.underlying9 (fun j hj => by
    have : j = 0 := by simp at hj; omega
    subst this
    exact cell_one_new W _ 5 0 _ rfl)
theorem cell_two_one (W : World) (o : Obj) (x : Value) (t : TypeId) : ∀ j u, [x][j]? = some u → ((W.alloc o).alloc (.cells #[x] t)).cell? ((⟨W.heap.size + 1, 0, none⟩ : Addr).add j) = some u := by
  intro j u h
  have := cell_one_new (W.alloc o) x t j u h
  simpa using this

theorem size_setCell (w : World) (a : Addr) (v : Value) : (w.setCell a v).heap.size = w.heap.size := by simp [World.setCell]
theorem heap_setCell_at (w : World) (b o : Nat) (v : Value) (A : Array Value) (t : TypeId) (fr : Nat × Nat) (h : w.heap[b]? = some (.cells A t fr)) :
    (w.setCell ⟨b, o, none⟩ v).heap[b]? = some (.cells (A.setIfInBounds o v) t fr) := by
  simp [World.setCell, Array.getElem?_modify, h]
theorem grown_tab {W w3 : World} {B : Nat} (o1 o2 : Obj) (hg : ((W.alloc o1).alloc o2).grownBy w3 (some B)) (j : Nat) (hj : j < W.heap.size) (hne : j ≠ B) : w3.heap[j]? = W.heap[j]? := by
  have h1 := hg.block j (by simp; omega) (by simp; omega)
  rw [h1, Below.heap_alloc _ _ _ (by simp; omega), Below.heap_alloc _ _ _ hj]
/-- The world in which the second store of a round is made. -/
theorem second_store {w0 W w3 : World} {B k o : Nat} (h : Tab w0 B k W) (o1 o2 : Obj) (hg : ((W.alloc o1).alloc o2).grownBy w3 (some B)) (v : Value) (s : ByteArray) (x : Value) (ho : o < 256)
    (hx : W.cell? ⟨B + 1, o, none⟩ = some x) :
    w3.cell? ⟨B + 1, 256, none⟩ = some (.slice (some ⟨B, 0, none⟩) k 2) ∧ w3.frozen? ⟨B + 1, 256, none⟩ = false ∧ B + 1 < w3.heap.size ∧
    (Lib.bytesWorld (w3.setCell ⟨B + 1, 256, none⟩ v) 5 s).cell? ⟨B + 1, o, none⟩ = some x ∧ (Lib.bytesWorld (w3.setCell ⟨B + 1, 256, none⟩ v) 5 s).frozen? ⟨B + 1, o, none⟩ = false := by
  have hz := h.size
  have hb := grown_tab o1 o2 hg (B + 1) (by omega) (by omega)
  obtain ⟨A, hA, hs, h256, _⟩ := h.tab
  have hw : w3.heap[B + 1]? = some (.cells A 70 (0, 0)) := hb.trans hA
  have hlt : B + 1 < w3.heap.size := (Array.getElem?_eq_some_iff.1 hw).1
  have h4 := heap_setCell_at w3 (B + 1) 256 v A 70 (0, 0) hw
  have h5 : (Lib.bytesWorld (w3.setCell ⟨B + 1, 256, none⟩ v) 5 s).heap[B + 1]? = some (.cells (A.setIfInBounds 256 v) 70 (0, 0)) := by
    rw [Lib.bytesWorld_at_old _ _ _ _ (by rw [size_setCell]; exact hlt)]; exact h4
  have hx' : A[o]? = some x := by simpa [World.cell?, hA] using hx
  refine ⟨by simp [World.cell?, hw, h256], by simp [World.frozen?, hw], hlt, ?_, by simp [World.frozen?, h5]⟩
  simp only [World.cell?, h5]
  show (A.setIfInBounds 256 v)[o]? = some x
  rw [Array.getElem?_setIfInBounds, if_neg (by omega : ¬ 256 = o)]; exact hx'

theorem bytes_grown (W : World) (e : TypeId) (s : ByteArray) : W.grownBy (Lib.bytesWorld W e s) none := by
  have hs := Lib.bytesWorld_size W e s
  refine ⟨?_, ?_, ?_, by omega, fun k hk _ => Lib.bytesWorld_at_old W e s k hk⟩ <;>
    (unfold Lib.bytesWorld World.freeze; rw [if_neg (by decide)]; rfl)

/-- What one round leaves of the blocks. -/
theorem step_blocks {w0 W w3 : World} {B k : Nat} (h : Tab w0 B k W) (o1 o2 : Obj) (hg : ((W.alloc o1).alloc o2).grownBy w3 (some B)) (hown : w3.ownsRow B 9 1 (.slice (some ⟨B, 0, none⟩) (k + 1) 2) (k + 1) (tabTwo.take (k + 1)))
    (v256 v : Value) (s : ByteArray) (o : Nat) (W6 : World) (hW6 : W6 = (Lib.bytesWorld (w3.setCell ⟨B + 1, 256, none⟩ v256) 5 s).setCell ⟨B + 1, o, none⟩ v) :
    Below B w0 W6 ∧ B + 2 ≤ W6.heap.size ∧ W6.ownsRow B 9 1 (.slice (some ⟨B, 0, none⟩) (k + 1) 2) (k + 1) (tabTwo.take (k + 1)) ∧
    (∀ A, W.heap[B + 1]? = some (.cells A 70 (0, 0)) → W6.heap[B + 1]? = some (.cells ((A.setIfInBounds 256 v256).setIfInBounds o v) 70 (0, 0))) ∧
    (∀ j, B + 2 ≤ j → j < W.heap.size → W6.heap[j]? = W.heap[j]?) ∧ W.heap.size ≤ W6.heap.size ∧
    W.heap.size ≤ w3.heap.size ∧ w3.heap.size < W6.heap.size ∧ (∀ j, j < s.size → W6.cell? ⟨w3.heap.size, j, none⟩ = some (.int .u8 (s.data.toList.getD j 0).toNat)) := by
  have hz := h.size
  have hs3 : W.heap.size ≤ w3.heap.size := by have := hg.size; simp at this; omega
  have hs4 : (w3.setCell ⟨B + 1, 256, none⟩ v256).heap.size = w3.heap.size := size_setCell _ _ _
  have hs5 := Lib.bytesWorld_size (w3.setCell ⟨B + 1, 256, none⟩ v256) 5 s
  have hs6 : W6.heap.size = w3.heap.size + 1 := by rw [hW6, size_setCell, hs5, hs4]
  have hg5 := bytes_grown (w3.setCell ⟨B + 1, 256, none⟩ v256) 5 s
  refine ⟨?_, by omega, ?_, ?_, ?_, by omega, hs3, by omega, ?_⟩
  · rw [hW6]
    refine Below.setCell ?_ (by simp) _
    refine Below.grown ?_ hg5 (by rw [hs4]; omega) (fun k hk => by cases hk)
    refine Below.setCell ?_ (by simp) _
    refine Below.grown ?_ hg (by simp; omega) (fun k hk => by simp at hk; omega)
    exact (h.bel.alloc (by omega) _).alloc (by simp; omega) _
  · rw [hW6]
    refine ownsRow_setCell_other ?_ (by simp [Value.ownBlock]) _
    exact (ownsRow_setCell_other hown (by simp [Value.ownBlock]) _).kept hg5 (Or.inr (by simp [Value.ownBlock]))
  · intro A hA
    have hw : w3.heap[B + 1]? = some (.cells A 70 (0, 0)) := (grown_tab o1 o2 hg (B + 1) (by omega) (by omega)).trans hA
    have h4 := heap_setCell_at w3 (B + 1) 256 v256 A 70 (0, 0) hw
    have h5 : (Lib.bytesWorld (w3.setCell ⟨B + 1, 256, none⟩ v256) 5 s).heap[B + 1]? = some (.cells (A.setIfInBounds 256 v256) 70 (0, 0)) := by
      rw [Lib.bytesWorld_at_old _ _ _ _ (by rw [hs4]; omega)]; exact h4
    rw [hW6]; exact heap_setCell_at _ _ _ _ _ _ _ h5
  · intro j h1 h2
    rw [hW6, Below.heap_setCell _ _ _ _ (by simp; omega), Lib.bytesWorld_at_old _ _ _ _ (by rw [hs4]; omega), Below.heap_setCell _ _ _ _ (by simp; omega)]
    exact grown_tab o1 o2 hg j h2 (by omega)
  · intro j hj
    have h1 := Lib.bytesWorld_cell (w3.setCell ⟨B + 1, 256, none⟩ v256) 5 s j hj
    rw [hs4] at h1
    have hne : (⟨B + 1, o, none⟩ : Addr) ≠ ⟨w3.heap.size, j, none⟩ := fun e => by have := congrArg Addr.block e; simp at this; omega
    rw [hW6, World.cell?_setCell_other _ _ _ _ hne]
    exact h1

theorem Rep.kept {B : Nat} {W W' : World} {v : Value} {s : ByteArray} (h : Rep B W v s) (hb : ∀ j, B + 2 ≤ j → j < W.heap.size → W'.heap[j]? = W.heap[j]?) (hs : W.heap.size ≤ W'.heap.size) : Rep B W' v s := by
  obtain ⟨g, c, hv, h1, h2, h3⟩ := h
  refine ⟨g, c, hv, h1, by omega, fun j hj => ?_⟩
  rw [World.cell?_of_block (hb g h1 h2)]
  exact h3 j hj

theorem tab_step0 {w0 W w3 : World} {B : Nat} (h : Tab w0 B 0 W) (o1 o2 : Obj) (hg : ((W.alloc o1).alloc o2).grownBy w3 (some B)) (hown : w3.ownsRow B 9 1 (.slice (some ⟨B, 0, none⟩) (0 + 1) 2) (0 + 1) ([] ++ [.string ⟨#[10]⟩])) (c : Nat) :
    Tab w0 B 1 ((Lib.bytesWorld (w3.setCell ⟨B + 1, 256, none⟩ (.slice (some ⟨B, 0, none⟩) 1 2)) 5 U10).setCell ⟨B + 1, 10, none⟩ (.slice (some ⟨w3.heap.size, 0, none⟩) 6 c)) := by
  have hz := h.size
  obtain ⟨s1, s2, s3, s4, s5, s6, s7, s8, s9⟩ := step_blocks h o1 o2 hg hown (.slice (some ⟨B, 0, none⟩) 1 2) (.slice (some ⟨w3.heap.size, 0, none⟩) 6 c) U10 10 _ rfl
  obtain ⟨A, hA, hs, h256, hrest, h9, h10, _, _⟩ := h.tab
  refine ⟨s1, s2, s3, _, s4 A hA, by simp [hs], ?_, ?_, ?_, fun h => by omega, fun _ => ⟨.slice (some ⟨w3.heap.size, 0, none⟩) 6 c, ?_, w3.heap.size, c, rfl, by omega, s8, s9⟩, fun h => by omega⟩
  · simp [hs]
  · intro j h1 h2 h3
    rw [Array.getElem?_setIfInBounds, if_neg (by omega), Array.getElem?_setIfInBounds, if_neg (by omega)]
    exact hrest j h1 h2 h3
  · intro _
    rw [Array.getElem?_setIfInBounds, if_neg (by omega), Array.getElem?_setIfInBounds, if_neg (by omega)]
    exact h9 (by omega)
  · simp [hs]

theorem tab_step1 {w0 W w3 : World} {B : Nat} (h : Tab w0 B 1 W) (o1 o2 : Obj) (hg : ((W.alloc o1).alloc o2).grownBy w3 (some B)) (hown : w3.ownsRow B 9 1 (.slice (some ⟨B, 0, none⟩) (1 + 1) 2) (1 + 1) ([.string ⟨#[10]⟩] ++ [.string ⟨#[9]⟩])) (c : Nat) :
    Tab w0 B 2 ((Lib.bytesWorld (w3.setCell ⟨B + 1, 256, none⟩ (.slice (some ⟨B, 0, none⟩) 2 2)) 5 U9).setCell ⟨B + 1, 9, none⟩ (.slice (some ⟨w3.heap.size, 0, none⟩) 6 c)) := by
  have hz := h.size
  obtain ⟨s1, s2, s3, s4, s5, s6, s7, s8, s9⟩ := step_blocks h o1 o2 hg hown (.slice (some ⟨B, 0, none⟩) 2 2) (.slice (some ⟨w3.heap.size, 0, none⟩) 6 c) U9 9 _ rfl
  obtain ⟨A, hA, hs, h256, hrest, h9, _, h10, _⟩ := h.tab
  obtain ⟨v, hv, hrep⟩ := h10 (by omega)
  refine ⟨s1, s2, s3, _, s4 A hA, by simp [hs], ?_, ?_, fun h => by omega, fun h => by omega, fun _ => ⟨v, ?_, hrep.kept s5 s6⟩, fun _ => ⟨.slice (some ⟨w3.heap.size, 0, none⟩) 6 c, ?_, w3.heap.size, c, rfl, by omega, s8, s9⟩⟩
  · simp [hs]
  · intro j h1 h2 h3
    rw [Array.getElem?_setIfInBounds, if_neg (by omega), Array.getElem?_setIfInBounds, if_neg (by omega)]
    exact hrest j h1 h2 h3
  · rw [Array.getElem?_setIfInBounds, if_neg (by omega), Array.getElem?_setIfInBounds, if_neg (by omega)]
    exact hv
  · simp [hs]

theorem tab_start (w : World) : Tab w w.heap.size 0 ((w.alloc (.cells #[.string ⟨#[]⟩, .string ⟨#[]⟩] 9)).alloc (.cells (RS0 (.slice (some ⟨w.heap.size, 0, none⟩) 0 2)) 70)) := by
  refine ⟨((Below.refl _ _).alloc (Nat.le_refl _) _).alloc (by simp) _, by simp, ?_, _, heap_two _ _ _, RS0_size _, ?_, ?_, ?_, ?_, fun h => by omega, fun h => by omega⟩
  · exact (World.ownsRow_made (e := 9) w _ 2 (Nat.le_refl _) (by unfold maxLen; omega) rfl).alloc _
  · kernel_rfl
  · intro j h1 _ _
    simp [RS0, Zs, Array.getElem?_push, h1]; omega
  · intro _; kernel_rfl
  · intro _; kernel_rfl

set_option maxRecDepth 100000 in
set_option maxHeartbeats 2000000 in
theorem build29 (R g cap : Nat) (w : World) (hR : w.cell? ⟨R, 4, none⟩ = some (.slice (some ⟨g, 0, none⟩) 4 cap))
    (c0 : w.cell? ⟨g, 0, none⟩ = some (.string ⟨#[9]⟩)) (c1 : w.cell? ⟨g, 1, none⟩ = some (.string U9))
    (c2 : w.cell? ⟨g, 2, none⟩ = some (.string ⟨#[10]⟩)) (c3 : w.cell? ⟨g, 3, none⟩ = some (.string U10)) (hg : g < w.heap.size) :
    Calls Try.prog 29 #[.pointer (some ⟨R, 0, none⟩)] w fun e w' => e = .returned (.iface 71 (.pointer (some ⟨w.heap.size + 1, 0, none⟩))) ∧ Tab w w.heap.size 2 w' := by
  have e10 : ((⟨#[10]⟩ : ByteArray)[0]'(by decide)).toNat = 10 := rfl
  have e9 : ((⟨#[9]⟩ : ByteArray)[0]'(by decide)).toNat = 9 := rfl
  have s9 : U9.size = 6 := rfl
  have s10 : U10.size = 6 := rfl
  obtain ⟨i0, hi, hz0, hz1, hz2⟩ := info_parts Try.info9
  clear hz0 hz2
  have hmk := make35
  have hal := alloc70
  have hnil := fun (W : World) (a : Option Addr) (n c : Nat) => Lib.run_eql_slice_nil (P := Try.prog) W 67 5 a n c 0 0 Try.underlying67
  go_enter Try.func29, Try.ntmps29
  go_wp2_with fail
  refine wp_loop_rounds 3 ?_
  rw [rounds_succ]
  go_wp2
  rw [rounds_succ]
  go_wp2
  rw [rounds_succ]
  go_wp2_with (first | (refine wpList_build rfl 70 #[(1, .tmp 94)] rfl (by show (Try.prog.built 70 [(1, .slice (some ⟨w.heap.size, 0, none⟩) 0 2)]).isSome = true; rw [build70]; rfl) ?_; show wpList Try.prog _ _ _ (Act.put _ _ (.agg ((Try.prog.built 70 [(1, .slice (some ⟨w.heap.size, 0, none⟩) 0 2)]).getD #[]))) _; rw [build70]; simp only [Option.getD_some]) | (refine wpList_store_row rfl 70 (.tmp 11) (.tmp 95) rfl (w.heap.size + 1) (RS0 (.slice (some ⟨w.heap.size, 0, none⟩) 0 2)) rfl rfl 70 (RS0 (.slice none 0 0)) (heap_two _ _ _) (by rw [RS0_size]; exact zero70) (by rw [RS0_size, RS0_size]) (oneCell_RS0 _ _ _) ?_; rw [setRow_two]))
  clear hmk hal
  go_loopw [12, 13, 14] (fun i _ _ w' => ∃ k : Nat, k ≤ 2 ∧ i = .int .i64 (2 - 2 * (k : Int)) ∧ Tab w w.heap.size k w') (fun i _ _ _ => (2 + intOf i).toNat)
  case atStart => exact ⟨0, by omega, rfl, tab_start w⟩
  case round =>
    obtain ⟨k, hk, rfl, ht⟩ := hrel
    have d0 := ht.bel.cell (p := ⟨g, 0, none⟩) hg
    have d1 := ht.bel.cell (p := ⟨g, 1, none⟩) hg
    have d2 := ht.bel.cell (p := ⟨g, 2, none⟩) hg
    have d3 := ht.bel.cell (p := ⟨g, 3, none⟩) hg
    rw [c0] at d0; rw [c1] at d1; rw [c2] at d2; rw [c3] at d3
    clear c0 c1 c2 c3 hR
    rcases (by omega : k = 0 ∨ k = 1 ∨ k = 2) with rfl | rfl | rfl
    · have t1 := ht.cell10
      have t2 := ht.cell256
      have HT : Hid (Tab w w.heap.size 0 wr) := ht
      clear ht
      have hcv := conv10 wr
      have hcb := fun (W : World) => Lib.run_convert_string_bytes (P := Try.prog) W 9 67 5 U10 Try.underlying9 Try.underlying67 Try.underlying5
      go_wp2_with (at_builtin; refine wpList_append_fits _ rfl (.tmp 119) (.tmp 123) 35 rfl w.heap.size 9 i0 1 Try.underlying35 hi hz1 w.heap.size 0 2 [] rfl ((HT.out.row.alloc _).alloc _) ⟨wr.heap.size + 1, 0, none⟩ 1 1 [.string ⟨#[10]⟩] rfl rfl (cell_two_one _ _ _ _) (by decide) (by decide) ?_; intro w3 hown3 hgrow3; obtain ⟨q1, q2, q5, q3, q4⟩ := second_store HT.out _ _ hgrow3 (.slice (some ⟨w.heap.size, 0, none⟩) 1 2) U10 _ (by decide : 10 < 256) t1; have HO3 : Hid (w3.ownsRow w.heap.size 9 1 (.slice (some ⟨w.heap.size, 0, none⟩) (0 + 1) 2) (0 + 1) ([] ++ [.string ⟨#[10]⟩])) := hown3; have HG3 : Hid (((wr.alloc (.cells #[.int .u8 10] 5)).alloc (.cells #[.string ⟨#[10]⟩] 9)).grownBy w3 (some w.heap.size)) := hgrow3; clear hown3 hgrow3)
      go_roundw
      case rel => exact ⟨1, by omega, rfl, tab_step0 HT.out _ _ HG3.out HO3.out _⟩
      case measure => simp [intOf]
    · have t1 := ht.cell9 (by omega)
      have t2 := ht.cell256
      have HT : Hid (Tab w w.heap.size 1 wr) := ht
      clear ht
      have hcv := conv9 wr
      have hcb := fun (W : World) => Lib.run_convert_string_bytes (P := Try.prog) W 9 67 5 U9 Try.underlying9 Try.underlying67 Try.underlying5
      go_wp2_with (at_builtin; refine wpList_append_fits _ rfl (.tmp 119) (.tmp 123) 35 rfl w.heap.size 9 i0 1 Try.underlying35 hi hz1 w.heap.size 1 2 [.string ⟨#[10]⟩] rfl ((HT.out.row.alloc _).alloc _) ⟨wr.heap.size + 1, 0, none⟩ 1 1 [.string ⟨#[9]⟩] rfl rfl (cell_two_one _ _ _ _) (by decide) (by decide) ?_; intro w3 hown3 hgrow3; obtain ⟨q1, q2, q5, q3, q4⟩ := second_store HT.out _ _ hgrow3 (.slice (some ⟨w.heap.size, 0, none⟩) 2 2) U9 _ (by decide : 9 < 256) t1; have HO3 : Hid (w3.ownsRow w.heap.size 9 1 (.slice (some ⟨w.heap.size, 0, none⟩) (1 + 1) 2) (1 + 1) ([.string ⟨#[10]⟩] ++ [.string ⟨#[9]⟩])) := hown3; have HG3 : Hid (((wr.alloc (.cells #[.int .u8 9] 5)).alloc (.cells #[.string ⟨#[9]⟩] 9)).grownBy w3 (some w.heap.size)) := hgrow3; clear hown3 hgrow3)
      go_roundw
      case rel => exact ⟨2, by omega, rfl, tab_step1 HT.out _ _ HG3.out HO3.out _⟩
      case measure => simp [intOf]
    · have HT : Hid (Tab w w.heap.size 2 wr) := ht
      clear ht
      go_wp2
      go_ret
      exact ⟨rfl, HT.out⟩
end Go.Proofs.Qxb6616464a
